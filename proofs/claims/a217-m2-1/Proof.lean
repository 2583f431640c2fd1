import JvmDerived
import JvmDerived.Pilot.@@N@@Statement
import JvmDerived.Pilot.@@N@@Code
set_option linter.unusedVariables false
set_option linter.unusedSimpArgs false
namespace Jvm.RoadKit
open Sem ClassFile Op Lib Jvm.Stand Jvm.Free Jvm.LawKit
section New
variable {p : Program} {l : Launch} {e : Env} {R : Room} {s : State} {m : MethodId} {args : Array Value} {below : List Frame} {meth : Method} {c : Code} {T : State} {locs : List Loc} {cells slots : Nat}
theorem retI (X : Stand p l e R s m args below meth c T locs cells slots) (hx : p.tables.exec = Jvm.exec) {pc : Nat} {Ls : Array Slot} {z : Int32} {rest : List Value} (hret : meth.sig.returnType = some .int) (hd : decode c.code pc = .ok (.ireturn, 1)) {fs : List Frame}
    (hl : ∀ (f : JFrame) (acts : List Action), f.method = m → f.locked = none → f.entered = [] → (doReturn e (T.setTop f) acts (some (.int z))).1 = T.setFrames fs) : Steps p.tables e below (T.setTop (mkF m pc Ls (.int z :: rest))) (T.setFrames fs) := by
  have hm' : T.vm.method? m = some meth := X.method'
  have hn : narrow .int (.int z) = .int z := rfl
  show Steps p.tables e below (T.setTop { method := m, pc := pc, locals := Ls, stack := _ :: rest, locked := none }) _
  jvm_step X.here [X.here.top, hx, hd, hm', hret, hn]
  first | (intro acts; rw [hl _ acts rfl rfl rfl]) | rw [hl _ _ rfl rfl rfl]
  exact Steps.refl _
end New
end Jvm.RoadKit
namespace Jvm.Pilot.@@N@@
open Jvm Jvm.ClassFile Sem Op Lib Jvm.Free Jvm.Stand Jvm.LawKit Jvm.RoadKit Bundle Jvm.Pilot.@@N@@.Jvm.D
theorem own_pn0 : plainName "com/example/kerb/kerb/sql/LexerIsWhitespacePinLaw" = true := by first | (simp [plainName, overriddenIn]; done) | decide +kernel
theorem own_pn31 : plainName "com/example/kerb/kerb/sql/Lexer" = true := by first | (simp [plainName, overriddenIn]; done) | decide +kernel
theorem own_pd54 : parseMethodDescriptor "(III)I" = some ⟨[.int, .int, .int], some .int⟩ := by decide +kernel
theorem own_pd55 : parseMethodDescriptor "(I)Z" = some ⟨[.int], some .boolean⟩ := by decide +kernel
-- body 1
theorem own_d1_0 : decode method_2_code 0 = .ok (.iload_n 2, 1) := by decide +kernel
theorem own_d1_1 : decode method_2_code 1 = .ok (.iconst 3, 1) := by decide +kernel
theorem own_d1_2 : decode method_2_code 2 = .ok (.iand, 1) := by decide +kernel
theorem own_d1_3 : decode method_2_code 3 = .ok (.istore_n 3, 1) := by decide +kernel
theorem own_d1_4 : decode method_2_code 4 = .ok (.iload_n 3, 1) := by decide +kernel
theorem own_d1_5 : decode method_2_code 5 = .ok (.ifCond .ne 5, 3) := by decide +kernel
theorem own_d1_8 : decode method_2_code 8 = .ok (.iload_n 0, 1) := by decide +kernel
theorem own_d1_9 : decode method_2_code 9 = .ok (.ireturn, 1) := by decide +kernel
theorem own_d1_10 : decode method_2_code 10 = .ok (.iload_n 3, 1) := by decide +kernel
theorem own_d1_11 : decode method_2_code 11 = .ok (.iconst 1, 1) := by decide +kernel
theorem own_d1_12 : decode method_2_code 12 = .ok (.if_icmp .ne 8, 3) := by decide +kernel
theorem own_d1_15 : decode method_2_code 15 = .ok (.iload_n 0, 1) := by decide +kernel
theorem own_d1_16 : decode method_2_code 16 = .ok (.bipush 63, 2) := by decide +kernel
theorem own_d1_18 : decode method_2_code 18 = .ok (.iand, 1) := by decide +kernel
theorem own_d1_19 : decode method_2_code 19 = .ok (.ireturn, 1) := by decide +kernel
theorem own_d1_20 : decode method_2_code 20 = .ok (.iload_n 3, 1) := by decide +kernel
theorem own_d1_21 : decode method_2_code 21 = .ok (.iconst 2, 1) := by decide +kernel
theorem own_d1_22 : decode method_2_code 22 = .ok (.if_icmp .ne 8, 3) := by decide +kernel
theorem own_d1_25 : decode method_2_code 25 = .ok (.iload_n 0, 1) := by decide +kernel
theorem own_d1_26 : decode method_2_code 26 = .ok (.ldc 7, 2) := by decide +kernel
theorem own_d1_28 : decode method_2_code 28 = .ok (.iand, 1) := by decide +kernel
theorem own_d1_29 : decode method_2_code 29 = .ok (.ireturn, 1) := by decide +kernel
theorem own_d1_30 : decode method_2_code 30 = .ok (.iload_n 0, 1) := by decide +kernel
theorem own_d1_31 : decode method_2_code 31 = .ok (.bipush 63, 2) := by decide +kernel
theorem own_d1_33 : decode method_2_code 33 = .ok (.iand, 1) := by decide +kernel
theorem own_d1_34 : decode method_2_code 34 = .ok (.iload_n 1, 1) := by decide +kernel
theorem own_d1_35 : decode method_2_code 35 = .ok (.bipush 16, 2) := by decide +kernel
theorem own_d1_37 : decode method_2_code 37 = .ok (.ishl, 1) := by decide +kernel
theorem own_d1_38 : decode method_2_code 38 = .ok (.iadd, 1) := by decide +kernel
theorem own_d1_39 : decode method_2_code 39 = .ok (.ireturn, 1) := by decide +kernel
theorem own_ef1 (m : MethodId) (x0 : Int32) (x1 : Int32) (x2 : Int32) : entryFrame m #[(.int x0), (.int x1), (.int x2)] 4 = mkF m 0 #[.val (.int x0), .val (.int x1), .val (.int x2), .unset] [] := by first | (simp [entryFrame, mkF, argsToLocals, Value.category]; done) | rfl
def own_f1 (p1 : Int32) (p2 : Int32) (p3 : Int32) : Int32 := if (p3 &&& (3 : Int32)) = (0 : Int32) then p1
    else if (p3 &&& (3 : Int32)) = (1 : Int32) then (p1 &&& (63 : Int32))
      else if (p3 &&& (3 : Int32)) = (2 : Int32) then (p1 &&& (65535 : Int32))
        else ((p1 &&& (63 : Int32)) + (p2 <<< ((16 : Int32) &&& 31)))
def own_Q1 (Z : State) (p1 : Int32) (p2 : Int32) (p3 : Int32) (h0 : Heap) (n0 : Nat) (v : Option Value) (h : Heap) (L : List Loc) : Prop := v = some (.int (own_f1 p1 p2 p3)) ∧ Fr n0 L ∧ h = h0
set_option maxRecDepth 65536 in
set_option maxHeartbeats 40000000 in
theorem own_rm1 (l : Launch) (Z : State) (a0 : Array Value) (hw : ∀ d ∈ tables_1, d.before a0 Z = true) (ws : List Jvm.Cond) (p1 : Int32) (p2 : Int32) (p3 : Int32) (h0 : Heap) (n0 : Nat) (Z0 : n0 ≤ h0.size) :
    MetFree l (⟨"com/example/kerb/kerb/sql/LexerIsWhitespacePinLaw", "pick", "(III)I"⟩ : MethodName) (head1 (Jvm.Cond.code (⟨"com/example/kerb/kerb/sql/LexerIsWhitespacePinLaw", "pick", "(III)I"⟩ : MethodName) method_2_code 4 (some .int) :: ws) ({ frames := 0, cells := 0, slots := 0, locals := 0 } : Room)) (fun a U => a = #[(.int p1), (.int p2), (.int p3)] ∧ Z.Warmed39 U.vm ∧ U.heap = h0) (fun _ _ _ _ _ => True) (fun _ U o U' => ∃ v L, o = .returned v ∧ own_Q1 Z p1 p2 p3 h0 n0 v U'.heap L ∧ FrameEnd U o U' L ({ frames := 0, cells := 0, slots := 0, locals := 0 } : Room).cells ({ frames := 0, cells := 0, slots := 0, locals := 0 } : Room).slots) := by
  refine MetFree.of_bodySF (plainFor_of_name own_pn0) hisR ?_
  intro p e s m args below meth c s₁ Bd hml0 hP hK
  obtain ⟨rfl, hZ, hh⟩ := hP
  have hx := Bd.exec
  have hby := Bd.bytes
  have hml : c.maxLocals = 4 := hml0
  have hown : s.vm.findClass "com/example/kerb/kerb/sql/LexerIsWhitespacePinLaw" = some m.cls := findClass_of_methodNamed Bd.named
  have hnm := (name_of_methodNamed Bd.named Bd.method).1
  have X0 : Stand p l e ({ frames := 0, cells := 0, slots := 0, locals := 0 } : Room) s m #[(.int p1), (.int p2), (.int p3)] below meth c s₁ [] 0 0 := Stand.of_body Bd
  have e0 : s₁.heap = h0 := by rw [← hh, Bd.state]; rfl
  have N0 := Fr.nil n0
  have pre0 : ∀ t, Steps p.tables e below (s₁.setTop (mkF m 0 #[.val (.int p1), .val (.int p2), .val (.int p3), .unset] [])) t → Steps p.tables e below (s₁.setTop (entryFrame m #[(.int p1), (.int p2), (.int p3)] 4)) t := fun t k => castTop (own_ef1 m p1 p2 p3) k
  have k1 : ∀ t, Steps p.tables e below (s₁.setTop (mkF m 5 #[.val (.int p1), .val (.int p2), .val (.int p3), .val (.int (p3 &&& (3 : Int32)))] [(.int (p3 &&& (3 : Int32)))])) t → Steps p.tables e below (s₁.setTop (entryFrame m #[(.int p1), (.int p2), (.int p3)] 4)) t := by
    intro t kt
    refine pre0 t ?_
    show Steps p.tables e below (s₁.setTop (mkF m 0 #[.val (.int p1), .val (.int p2), .val (.int p3), .unset] [])) _
    refine XS.iloadN X0.here hx rfl (hb hby own_d1_0) rfl ?_
    show Steps p.tables e below (s₁.setTop (mkF m 1 #[.val (.int p1), .val (.int p2), .val (.int p3), .unset] [(.int p3)])) _
    refine XS.iconst X0.here hx rfl (hb hby own_d1_1) ?_
    show Steps p.tables e below (s₁.setTop (mkF m 2 #[.val (.int p1), .val (.int p2), .val (.int p3), .unset] [(.int (3 : Int32)), (.int p3)])) _
    refine XS.iand X0.here hx rfl (hb hby own_d1_2) rfl ?_
    show Steps p.tables e below (s₁.setTop (mkF m 3 #[.val (.int p1), .val (.int p2), .val (.int p3), .unset] [(.int (p3 &&& (3 : Int32)))])) _
    refine XS.istoreN X0.here hx rfl (hb hby own_d1_3) rfl (l' := #[.val (.int p1), .val (.int p2), .val (.int p3), .val (.int (p3 &&& (3 : Int32)))]) rfl ?_
    show Steps p.tables e below (s₁.setTop (mkF m 4 #[.val (.int p1), .val (.int p2), .val (.int p3), .val (.int (p3 &&& (3 : Int32)))] [])) _
    refine XS.iloadN X0.here hx rfl (hb hby own_d1_4) rfl ?_
    exact kt
  by_cases hc1 : (p3 &&& (3 : Int32)) = (0 : Int32)
  ·
    obtain ⟨fs, hr, hrun, hended, hW, hsame⟩ := X0.leave (v := some (.int p1)) (fun h => by rw [Bd.returns] at h; cases h)
    refine ⟨_, _, k1 _ ?_, hrun, hended, _, _, rfl, ?_, ⟨_, rfl⟩, hW, hsame.mono (by decide) (by decide)⟩
    · show Steps p.tables e below (s₁.setTop (mkF m 5 #[.val (.int p1), .val (.int p2), .val (.int p3), .val (.int (p3 &&& (3 : Int32)))] [(.int (p3 &&& (3 : Int32)))])) _
      refine XS.ifNo X0.here hx rfl (hb hby own_d1_5) rfl ((if0 _ _).trans (teq hc1).2) ?_
      show Steps p.tables e below (s₁.setTop (mkF m 8 #[.val (.int p1), .val (.int p2), .val (.int p3), .val (.int (p3 &&& (3 : Int32)))] [])) _
      refine XS.iloadN X0.here hx rfl (hb hby own_d1_8) rfl ?_
      show Steps p.tables e below (s₁.setTop (mkF m 9 #[.val (.int p1), .val (.int p2), .val (.int p3), .val (.int (p3 &&& (3 : Int32)))] [(.int p1)])) _
      exact retI X0 hx Bd.returns (hb hby own_d1_9) hr
    · show own_Q1 Z p1 p2 p3 h0 n0 _ s₁.heap _
      rw [e0]
      exact ⟨(by rw [own_f1, if_pos hc1]), N0, rfl⟩
  ·
    have k2 : ∀ t, Steps p.tables e below (s₁.setTop (mkF m 12 #[.val (.int p1), .val (.int p2), .val (.int p3), .val (.int (p3 &&& (3 : Int32)))] [(.int (1 : Int32)), (.int (p3 &&& (3 : Int32)))])) t → Steps p.tables e below (s₁.setTop (entryFrame m #[(.int p1), (.int p2), (.int p3)] 4)) t := by
      intro t kt
      refine k1 t ?_
      show Steps p.tables e below (s₁.setTop (mkF m 5 #[.val (.int p1), .val (.int p2), .val (.int p3), .val (.int (p3 &&& (3 : Int32)))] [(.int (p3 &&& (3 : Int32)))])) _
      refine XS.ifYes X0.here hx rfl (pc0 := 5) (pc' := 10) rfl (hb hby own_d1_5) rfl ((if0 _ _).trans (feq hc1).2) (by decide) (by decide) ?_
      show Steps p.tables e below (s₁.setTop (mkF m 10 #[.val (.int p1), .val (.int p2), .val (.int p3), .val (.int (p3 &&& (3 : Int32)))] [])) _
      refine XS.iloadN X0.here hx rfl (hb hby own_d1_10) rfl ?_
      show Steps p.tables e below (s₁.setTop (mkF m 11 #[.val (.int p1), .val (.int p2), .val (.int p3), .val (.int (p3 &&& (3 : Int32)))] [(.int (p3 &&& (3 : Int32)))])) _
      refine XS.iconst X0.here hx rfl (hb hby own_d1_11) ?_
      exact kt
    by_cases hc2 : (p3 &&& (3 : Int32)) = (1 : Int32)
    ·
      obtain ⟨fs, hr, hrun, hended, hW, hsame⟩ := X0.leave (v := some (.int (p1 &&& (63 : Int32)))) (fun h => by rw [Bd.returns] at h; cases h)
      refine ⟨_, _, k2 _ ?_, hrun, hended, _, _, rfl, ?_, ⟨_, rfl⟩, hW, hsame.mono (by decide) (by decide)⟩
      · show Steps p.tables e below (s₁.setTop (mkF m 12 #[.val (.int p1), .val (.int p2), .val (.int p3), .val (.int (p3 &&& (3 : Int32)))] [(.int (1 : Int32)), (.int (p3 &&& (3 : Int32)))])) _
        refine XS.icmpNo X0.here hx rfl (hb hby own_d1_12) rfl (teq hc2).2 ?_
        show Steps p.tables e below (s₁.setTop (mkF m 15 #[.val (.int p1), .val (.int p2), .val (.int p3), .val (.int (p3 &&& (3 : Int32)))] [])) _
        refine XS.iloadN X0.here hx rfl (hb hby own_d1_15) rfl ?_
        show Steps p.tables e below (s₁.setTop (mkF m 16 #[.val (.int p1), .val (.int p2), .val (.int p3), .val (.int (p3 &&& (3 : Int32)))] [(.int p1)])) _
        refine XS.bipush X0.here hx rfl (hb hby own_d1_16) ?_
        show Steps p.tables e below (s₁.setTop (mkF m 18 #[.val (.int p1), .val (.int p2), .val (.int p3), .val (.int (p3 &&& (3 : Int32)))] [(.int (63 : Int32)), (.int p1)])) _
        refine XS.iand X0.here hx rfl (hb hby own_d1_18) rfl ?_
        show Steps p.tables e below (s₁.setTop (mkF m 19 #[.val (.int p1), .val (.int p2), .val (.int p3), .val (.int (p3 &&& (3 : Int32)))] [(.int (p1 &&& (63 : Int32)))])) _
        exact retI X0 hx Bd.returns (hb hby own_d1_19) hr
      · show own_Q1 Z p1 p2 p3 h0 n0 _ s₁.heap _
        rw [e0]
        exact ⟨(by rw [own_f1, if_neg hc1, if_pos hc2]), N0, rfl⟩
    ·
      have k3 : ∀ t, Steps p.tables e below (s₁.setTop (mkF m 22 #[.val (.int p1), .val (.int p2), .val (.int p3), .val (.int (p3 &&& (3 : Int32)))] [(.int (2 : Int32)), (.int (p3 &&& (3 : Int32)))])) t → Steps p.tables e below (s₁.setTop (entryFrame m #[(.int p1), (.int p2), (.int p3)] 4)) t := by
        intro t kt
        refine k2 t ?_
        show Steps p.tables e below (s₁.setTop (mkF m 12 #[.val (.int p1), .val (.int p2), .val (.int p3), .val (.int (p3 &&& (3 : Int32)))] [(.int (1 : Int32)), (.int (p3 &&& (3 : Int32)))])) _
        refine XS.icmpYes X0.here hx rfl (pc0 := 12) (pc' := 20) rfl (hb hby own_d1_12) rfl (feq hc2).2 (by decide) (by decide) ?_
        show Steps p.tables e below (s₁.setTop (mkF m 20 #[.val (.int p1), .val (.int p2), .val (.int p3), .val (.int (p3 &&& (3 : Int32)))] [])) _
        refine XS.iloadN X0.here hx rfl (hb hby own_d1_20) rfl ?_
        show Steps p.tables e below (s₁.setTop (mkF m 21 #[.val (.int p1), .val (.int p2), .val (.int p3), .val (.int (p3 &&& (3 : Int32)))] [(.int (p3 &&& (3 : Int32)))])) _
        refine XS.iconst X0.here hx rfl (hb hby own_d1_21) ?_
        exact kt
      by_cases hc3 : (p3 &&& (3 : Int32)) = (2 : Int32)
      ·
        obtain ⟨fs, hr, hrun, hended, hW, hsame⟩ := X0.leave (v := some (.int (p1 &&& (65535 : Int32)))) (fun h => by rw [Bd.returns] at h; cases h)
        refine ⟨_, _, k3 _ ?_, hrun, hended, _, _, rfl, ?_, ⟨_, rfl⟩, hW, hsame.mono (by decide) (by decide)⟩
        · show Steps p.tables e below (s₁.setTop (mkF m 22 #[.val (.int p1), .val (.int p2), .val (.int p3), .val (.int (p3 &&& (3 : Int32)))] [(.int (2 : Int32)), (.int (p3 &&& (3 : Int32)))])) _
          refine XS.icmpNo X0.here hx rfl (hb hby own_d1_22) rfl (teq hc3).2 ?_
          show Steps p.tables e below (s₁.setTop (mkF m 25 #[.val (.int p1), .val (.int p2), .val (.int p3), .val (.int (p3 &&& (3 : Int32)))] [])) _
          refine XS.iloadN X0.here hx rfl (hb hby own_d1_25) rfl ?_
          show Steps p.tables e below (s₁.setTop (mkF m 26 #[.val (.int p1), .val (.int p2), .val (.int p3), .val (.int (p3 &&& (3 : Int32)))] [(.int p1)])) _
          refine X0.ldcInt hx hown (mvT hZ (hw _ (List.mem_of_getElem? (i := 4) rfl))) (g := (mkF m 26 #[.val (.int p1), .val (.int p2), .val (.int p3), .val (.int (p3 &&& (3 : Int32)))] [(.int p1)])) rfl (hb hby own_d1_26) _ ?_
          show Steps p.tables e below (s₁.setTop (mkF m 28 #[.val (.int p1), .val (.int p2), .val (.int p3), .val (.int (p3 &&& (3 : Int32)))] [(.int (65535 : Int32)), (.int p1)])) _
          refine XS.iand X0.here hx rfl (hb hby own_d1_28) rfl ?_
          show Steps p.tables e below (s₁.setTop (mkF m 29 #[.val (.int p1), .val (.int p2), .val (.int p3), .val (.int (p3 &&& (3 : Int32)))] [(.int (p1 &&& (65535 : Int32)))])) _
          exact retI X0 hx Bd.returns (hb hby own_d1_29) hr
        · show own_Q1 Z p1 p2 p3 h0 n0 _ s₁.heap _
          rw [e0]
          exact ⟨(by rw [own_f1, if_neg hc1, if_neg hc2, if_pos hc3]), N0, rfl⟩
      ·
        obtain ⟨fs, hr, hrun, hended, hW, hsame⟩ := X0.leave (v := some (.int ((p1 &&& (63 : Int32)) + (p2 <<< ((16 : Int32) &&& 31))))) (fun h => by rw [Bd.returns] at h; cases h)
        refine ⟨_, _, k3 _ ?_, hrun, hended, _, _, rfl, ?_, ⟨_, rfl⟩, hW, hsame.mono (by decide) (by decide)⟩
        · show Steps p.tables e below (s₁.setTop (mkF m 22 #[.val (.int p1), .val (.int p2), .val (.int p3), .val (.int (p3 &&& (3 : Int32)))] [(.int (2 : Int32)), (.int (p3 &&& (3 : Int32)))])) _
          refine XS.icmpYes X0.here hx rfl (pc0 := 22) (pc' := 30) rfl (hb hby own_d1_22) rfl (feq hc3).2 (by decide) (by decide) ?_
          show Steps p.tables e below (s₁.setTop (mkF m 30 #[.val (.int p1), .val (.int p2), .val (.int p3), .val (.int (p3 &&& (3 : Int32)))] [])) _
          refine XS.iloadN X0.here hx rfl (hb hby own_d1_30) rfl ?_
          show Steps p.tables e below (s₁.setTop (mkF m 31 #[.val (.int p1), .val (.int p2), .val (.int p3), .val (.int (p3 &&& (3 : Int32)))] [(.int p1)])) _
          refine XS.bipush X0.here hx rfl (hb hby own_d1_31) ?_
          show Steps p.tables e below (s₁.setTop (mkF m 33 #[.val (.int p1), .val (.int p2), .val (.int p3), .val (.int (p3 &&& (3 : Int32)))] [(.int (63 : Int32)), (.int p1)])) _
          refine XS.iand X0.here hx rfl (hb hby own_d1_33) rfl ?_
          show Steps p.tables e below (s₁.setTop (mkF m 34 #[.val (.int p1), .val (.int p2), .val (.int p3), .val (.int (p3 &&& (3 : Int32)))] [(.int (p1 &&& (63 : Int32)))])) _
          refine XS.iloadN X0.here hx rfl (hb hby own_d1_34) rfl ?_
          show Steps p.tables e below (s₁.setTop (mkF m 35 #[.val (.int p1), .val (.int p2), .val (.int p3), .val (.int (p3 &&& (3 : Int32)))] [(.int p2), (.int (p1 &&& (63 : Int32)))])) _
          refine XS.bipush X0.here hx rfl (hb hby own_d1_35) ?_
          show Steps p.tables e below (s₁.setTop (mkF m 37 #[.val (.int p1), .val (.int p2), .val (.int p3), .val (.int (p3 &&& (3 : Int32)))] [(.int (16 : Int32)), (.int p2), (.int (p1 &&& (63 : Int32)))])) _
          refine XS.ishl X0.here hx rfl (hb hby own_d1_37) rfl ?_
          show Steps p.tables e below (s₁.setTop (mkF m 38 #[.val (.int p1), .val (.int p2), .val (.int p3), .val (.int (p3 &&& (3 : Int32)))] [(.int (p2 <<< ((16 : Int32) &&& 31))), (.int (p1 &&& (63 : Int32)))])) _
          refine XS.iadd X0.here hx rfl (hb hby own_d1_38) rfl ?_
          show Steps p.tables e below (s₁.setTop (mkF m 39 #[.val (.int p1), .val (.int p2), .val (.int p3), .val (.int (p3 &&& (3 : Int32)))] [(.int ((p1 &&& (63 : Int32)) + (p2 <<< ((16 : Int32) &&& 31))))])) _
          exact retI X0 hx Bd.returns (hb hby own_d1_39) hr
        · show own_Q1 Z p1 p2 p3 h0 n0 _ s₁.heap _
          rw [e0]
          exact ⟨(by rw [own_f1, if_neg hc1, if_neg hc2, if_neg hc3]), N0, rfl⟩
-- body 2
theorem own_d2_0 : decode prog_87_method_3_code 0 = .ok (.iload_n 0, 1) := by decide +kernel
theorem own_d2_1 : decode prog_87_method_3_code 1 = .ok (.bipush 32, 2) := by decide +kernel
theorem own_d2_3 : decode prog_87_method_3_code 3 = .ok (.if_icmp .eq 33, 3) := by decide +kernel
theorem own_d2_6 : decode prog_87_method_3_code 6 = .ok (.iload_n 0, 1) := by decide +kernel
theorem own_d2_7 : decode prog_87_method_3_code 7 = .ok (.bipush 9, 2) := by decide +kernel
theorem own_d2_9 : decode prog_87_method_3_code 9 = .ok (.if_icmp .eq 27, 3) := by decide +kernel
theorem own_d2_12 : decode prog_87_method_3_code 12 = .ok (.iload_n 0, 1) := by decide +kernel
theorem own_d2_13 : decode prog_87_method_3_code 13 = .ok (.bipush 10, 2) := by decide +kernel
theorem own_d2_15 : decode prog_87_method_3_code 15 = .ok (.if_icmp .eq 21, 3) := by decide +kernel
theorem own_d2_18 : decode prog_87_method_3_code 18 = .ok (.iload_n 0, 1) := by decide +kernel
theorem own_d2_19 : decode prog_87_method_3_code 19 = .ok (.bipush 13, 2) := by decide +kernel
theorem own_d2_21 : decode prog_87_method_3_code 21 = .ok (.if_icmp .eq 15, 3) := by decide +kernel
theorem own_d2_24 : decode prog_87_method_3_code 24 = .ok (.iload_n 0, 1) := by decide +kernel
theorem own_d2_25 : decode prog_87_method_3_code 25 = .ok (.bipush 12, 2) := by decide +kernel
theorem own_d2_27 : decode prog_87_method_3_code 27 = .ok (.if_icmp .eq 9, 3) := by decide +kernel
theorem own_d2_30 : decode prog_87_method_3_code 30 = .ok (.iload_n 0, 1) := by decide +kernel
theorem own_d2_31 : decode prog_87_method_3_code 31 = .ok (.bipush 11, 2) := by decide +kernel
theorem own_d2_33 : decode prog_87_method_3_code 33 = .ok (.if_icmp .ne 7, 3) := by decide +kernel
theorem own_d2_36 : decode prog_87_method_3_code 36 = .ok (.iconst 1, 1) := by decide +kernel
theorem own_d2_37 : decode prog_87_method_3_code 37 = .ok (.goto 4, 3) := by decide +kernel
theorem own_d2_40 : decode prog_87_method_3_code 40 = .ok (.iconst 0, 1) := by decide +kernel
theorem own_d2_41 : decode prog_87_method_3_code 41 = .ok (.ireturn, 1) := by decide +kernel
theorem own_ef2 (m : MethodId) (x0 : Int32) : entryFrame m #[(.int x0)] 1 = mkF m 0 #[.val (.int x0)] [] := by first | (simp [entryFrame, mkF, argsToLocals, Value.category]; done) | rfl
def own_f2 (p1 : Int32) : Int32 := if p1 = (32 : Int32) then (1 : Int32)
    else if p1 = (9 : Int32) then (1 : Int32)
      else if p1 = (10 : Int32) then (1 : Int32)
        else if p1 = (13 : Int32) then (1 : Int32)
          else if p1 = (12 : Int32) then (1 : Int32)
            else if p1 = (11 : Int32) then (1 : Int32)
              else (0 : Int32)
def own_Q2 (Z : State) (p1 : Int32) (h0 : Heap) (n0 : Nat) (v : Option Value) (h : Heap) (L : List Loc) : Prop := v = some (.int (own_f2 p1)) ∧ Fr n0 L ∧ h = h0
set_option maxRecDepth 65536 in
set_option maxHeartbeats 40000000 in
theorem own_rm2 (l : Launch) (Z : State) (a0 : Array Value) (hw : ∀ d ∈ tables_1, d.before a0 Z = true) (ws : List Jvm.Cond) (p1 : Int32) (h0 : Heap) (n0 : Nat) (Z0 : n0 ≤ h0.size) :
    MetFree l (⟨"com/example/kerb/kerb/sql/Lexer", "isWhitespace", "(I)Z"⟩ : MethodName) (head1 (Jvm.Cond.code (⟨"com/example/kerb/kerb/sql/Lexer", "isWhitespace", "(I)Z"⟩ : MethodName) prog_87_method_3_code 1 (some .boolean) :: ws) ({ frames := 0, cells := 0, slots := 0, locals := 0 } : Room)) (fun a U => a = #[(.int p1)] ∧ Z.Warmed39 U.vm ∧ U.heap = h0) (fun _ _ _ _ _ => True) (fun _ U o U' => ∃ v L, o = .returned v ∧ own_Q2 Z p1 h0 n0 v U'.heap L ∧ FrameEnd U o U' L ({ frames := 0, cells := 0, slots := 0, locals := 0 } : Room).cells ({ frames := 0, cells := 0, slots := 0, locals := 0 } : Room).slots) := by
  refine MetFree.of_bodySF (plainFor_of_name own_pn31) hisR ?_
  intro p e s m args below meth c s₁ Bd hml0 hP hK
  obtain ⟨rfl, hZ, hh⟩ := hP
  have hx := Bd.exec
  have hby := Bd.bytes
  have hml : c.maxLocals = 1 := hml0
  have hown : s.vm.findClass "com/example/kerb/kerb/sql/Lexer" = some m.cls := findClass_of_methodNamed Bd.named
  have hnm := (name_of_methodNamed Bd.named Bd.method).1
  have X0 : Stand p l e ({ frames := 0, cells := 0, slots := 0, locals := 0 } : Room) s m #[(.int p1)] below meth c s₁ [] 0 0 := Stand.of_body Bd
  have e0 : s₁.heap = h0 := by rw [← hh, Bd.state]; rfl
  have N0 := Fr.nil n0
  have pre0 : ∀ t, Steps p.tables e below (s₁.setTop (mkF m 0 #[.val (.int p1)] [])) t → Steps p.tables e below (s₁.setTop (entryFrame m #[(.int p1)] 1)) t := fun t k => castTop (own_ef2 m p1) k
  have k1 : ∀ t, Steps p.tables e below (s₁.setTop (mkF m 3 #[.val (.int p1)] [(.int (32 : Int32)), (.int p1)])) t → Steps p.tables e below (s₁.setTop (entryFrame m #[(.int p1)] 1)) t := by
    intro t kt
    refine pre0 t ?_
    show Steps p.tables e below (s₁.setTop (mkF m 0 #[.val (.int p1)] [])) _
    refine XS.iloadN X0.here hx rfl (hb hby own_d2_0) rfl ?_
    show Steps p.tables e below (s₁.setTop (mkF m 1 #[.val (.int p1)] [(.int p1)])) _
    refine XS.bipush X0.here hx rfl (hb hby own_d2_1) ?_
    exact kt
  by_cases hc1 : p1 = (32 : Int32)
  ·
    obtain ⟨fs, hr, hrun, hended, hW, hsame⟩ := X0.leave (v := some (.int (1 : Int32))) (fun h => by rw [Bd.returns] at h; cases h)
    refine ⟨_, _, k1 _ ?_, hrun, hended, _, _, rfl, ?_, ⟨_, rfl⟩, hW, hsame.mono (by decide) (by decide)⟩
    · show Steps p.tables e below (s₁.setTop (mkF m 3 #[.val (.int p1)] [(.int (32 : Int32)), (.int p1)])) _
      refine XS.icmpYes X0.here hx rfl (pc0 := 3) (pc' := 36) rfl (hb hby own_d2_3) rfl (teq hc1).1 (by decide) (by decide) ?_
      show Steps p.tables e below (s₁.setTop (mkF m 36 #[.val (.int p1)] [])) _
      refine XS.iconst X0.here hx rfl (hb hby own_d2_36) ?_
      show Steps p.tables e below (s₁.setTop (mkF m 37 #[.val (.int p1)] [(.int (1 : Int32))])) _
      refine XS.goto X0.here hx rfl (pc0 := 37) (pc' := 41) rfl (hb hby own_d2_37) (by decide) (by decide) ?_
      show Steps p.tables e below (s₁.setTop (mkF m 41 #[.val (.int p1)] [(.int (1 : Int32))])) _
      exact retN X0 hx (t := .boolean) Bd.returns (by simp) (hb hby own_d2_41) hr
    · show own_Q2 Z p1 h0 n0 _ s₁.heap _
      rw [e0]
      exact ⟨(by rw [own_f2, if_pos hc1]), N0, rfl⟩
  ·
    have k2 : ∀ t, Steps p.tables e below (s₁.setTop (mkF m 9 #[.val (.int p1)] [(.int (9 : Int32)), (.int p1)])) t → Steps p.tables e below (s₁.setTop (entryFrame m #[(.int p1)] 1)) t := by
      intro t kt
      refine k1 t ?_
      show Steps p.tables e below (s₁.setTop (mkF m 3 #[.val (.int p1)] [(.int (32 : Int32)), (.int p1)])) _
      refine XS.icmpNo X0.here hx rfl (hb hby own_d2_3) rfl (feq hc1).1 ?_
      show Steps p.tables e below (s₁.setTop (mkF m 6 #[.val (.int p1)] [])) _
      refine XS.iloadN X0.here hx rfl (hb hby own_d2_6) rfl ?_
      show Steps p.tables e below (s₁.setTop (mkF m 7 #[.val (.int p1)] [(.int p1)])) _
      refine XS.bipush X0.here hx rfl (hb hby own_d2_7) ?_
      exact kt
    by_cases hc2 : p1 = (9 : Int32)
    ·
      obtain ⟨fs, hr, hrun, hended, hW, hsame⟩ := X0.leave (v := some (.int (1 : Int32))) (fun h => by rw [Bd.returns] at h; cases h)
      refine ⟨_, _, k2 _ ?_, hrun, hended, _, _, rfl, ?_, ⟨_, rfl⟩, hW, hsame.mono (by decide) (by decide)⟩
      · show Steps p.tables e below (s₁.setTop (mkF m 9 #[.val (.int p1)] [(.int (9 : Int32)), (.int p1)])) _
        refine XS.icmpYes X0.here hx rfl (pc0 := 9) (pc' := 36) rfl (hb hby own_d2_9) rfl (teq hc2).1 (by decide) (by decide) ?_
        show Steps p.tables e below (s₁.setTop (mkF m 36 #[.val (.int p1)] [])) _
        refine XS.iconst X0.here hx rfl (hb hby own_d2_36) ?_
        show Steps p.tables e below (s₁.setTop (mkF m 37 #[.val (.int p1)] [(.int (1 : Int32))])) _
        refine XS.goto X0.here hx rfl (pc0 := 37) (pc' := 41) rfl (hb hby own_d2_37) (by decide) (by decide) ?_
        show Steps p.tables e below (s₁.setTop (mkF m 41 #[.val (.int p1)] [(.int (1 : Int32))])) _
        exact retN X0 hx (t := .boolean) Bd.returns (by simp) (hb hby own_d2_41) hr
      · show own_Q2 Z p1 h0 n0 _ s₁.heap _
        rw [e0]
        exact ⟨(by rw [own_f2, if_neg hc1, if_pos hc2]), N0, rfl⟩
    ·
      have k3 : ∀ t, Steps p.tables e below (s₁.setTop (mkF m 15 #[.val (.int p1)] [(.int (10 : Int32)), (.int p1)])) t → Steps p.tables e below (s₁.setTop (entryFrame m #[(.int p1)] 1)) t := by
        intro t kt
        refine k2 t ?_
        show Steps p.tables e below (s₁.setTop (mkF m 9 #[.val (.int p1)] [(.int (9 : Int32)), (.int p1)])) _
        refine XS.icmpNo X0.here hx rfl (hb hby own_d2_9) rfl (feq hc2).1 ?_
        show Steps p.tables e below (s₁.setTop (mkF m 12 #[.val (.int p1)] [])) _
        refine XS.iloadN X0.here hx rfl (hb hby own_d2_12) rfl ?_
        show Steps p.tables e below (s₁.setTop (mkF m 13 #[.val (.int p1)] [(.int p1)])) _
        refine XS.bipush X0.here hx rfl (hb hby own_d2_13) ?_
        exact kt
      by_cases hc3 : p1 = (10 : Int32)
      ·
        obtain ⟨fs, hr, hrun, hended, hW, hsame⟩ := X0.leave (v := some (.int (1 : Int32))) (fun h => by rw [Bd.returns] at h; cases h)
        refine ⟨_, _, k3 _ ?_, hrun, hended, _, _, rfl, ?_, ⟨_, rfl⟩, hW, hsame.mono (by decide) (by decide)⟩
        · show Steps p.tables e below (s₁.setTop (mkF m 15 #[.val (.int p1)] [(.int (10 : Int32)), (.int p1)])) _
          refine XS.icmpYes X0.here hx rfl (pc0 := 15) (pc' := 36) rfl (hb hby own_d2_15) rfl (teq hc3).1 (by decide) (by decide) ?_
          show Steps p.tables e below (s₁.setTop (mkF m 36 #[.val (.int p1)] [])) _
          refine XS.iconst X0.here hx rfl (hb hby own_d2_36) ?_
          show Steps p.tables e below (s₁.setTop (mkF m 37 #[.val (.int p1)] [(.int (1 : Int32))])) _
          refine XS.goto X0.here hx rfl (pc0 := 37) (pc' := 41) rfl (hb hby own_d2_37) (by decide) (by decide) ?_
          show Steps p.tables e below (s₁.setTop (mkF m 41 #[.val (.int p1)] [(.int (1 : Int32))])) _
          exact retN X0 hx (t := .boolean) Bd.returns (by simp) (hb hby own_d2_41) hr
        · show own_Q2 Z p1 h0 n0 _ s₁.heap _
          rw [e0]
          exact ⟨(by rw [own_f2, if_neg hc1, if_neg hc2, if_pos hc3]), N0, rfl⟩
      ·
        have k4 : ∀ t, Steps p.tables e below (s₁.setTop (mkF m 21 #[.val (.int p1)] [(.int (13 : Int32)), (.int p1)])) t → Steps p.tables e below (s₁.setTop (entryFrame m #[(.int p1)] 1)) t := by
          intro t kt
          refine k3 t ?_
          show Steps p.tables e below (s₁.setTop (mkF m 15 #[.val (.int p1)] [(.int (10 : Int32)), (.int p1)])) _
          refine XS.icmpNo X0.here hx rfl (hb hby own_d2_15) rfl (feq hc3).1 ?_
          show Steps p.tables e below (s₁.setTop (mkF m 18 #[.val (.int p1)] [])) _
          refine XS.iloadN X0.here hx rfl (hb hby own_d2_18) rfl ?_
          show Steps p.tables e below (s₁.setTop (mkF m 19 #[.val (.int p1)] [(.int p1)])) _
          refine XS.bipush X0.here hx rfl (hb hby own_d2_19) ?_
          exact kt
        by_cases hc4 : p1 = (13 : Int32)
        ·
          obtain ⟨fs, hr, hrun, hended, hW, hsame⟩ := X0.leave (v := some (.int (1 : Int32))) (fun h => by rw [Bd.returns] at h; cases h)
          refine ⟨_, _, k4 _ ?_, hrun, hended, _, _, rfl, ?_, ⟨_, rfl⟩, hW, hsame.mono (by decide) (by decide)⟩
          · show Steps p.tables e below (s₁.setTop (mkF m 21 #[.val (.int p1)] [(.int (13 : Int32)), (.int p1)])) _
            refine XS.icmpYes X0.here hx rfl (pc0 := 21) (pc' := 36) rfl (hb hby own_d2_21) rfl (teq hc4).1 (by decide) (by decide) ?_
            show Steps p.tables e below (s₁.setTop (mkF m 36 #[.val (.int p1)] [])) _
            refine XS.iconst X0.here hx rfl (hb hby own_d2_36) ?_
            show Steps p.tables e below (s₁.setTop (mkF m 37 #[.val (.int p1)] [(.int (1 : Int32))])) _
            refine XS.goto X0.here hx rfl (pc0 := 37) (pc' := 41) rfl (hb hby own_d2_37) (by decide) (by decide) ?_
            show Steps p.tables e below (s₁.setTop (mkF m 41 #[.val (.int p1)] [(.int (1 : Int32))])) _
            exact retN X0 hx (t := .boolean) Bd.returns (by simp) (hb hby own_d2_41) hr
          · show own_Q2 Z p1 h0 n0 _ s₁.heap _
            rw [e0]
            exact ⟨(by rw [own_f2, if_neg hc1, if_neg hc2, if_neg hc3, if_pos hc4]), N0, rfl⟩
        ·
          have k5 : ∀ t, Steps p.tables e below (s₁.setTop (mkF m 27 #[.val (.int p1)] [(.int (12 : Int32)), (.int p1)])) t → Steps p.tables e below (s₁.setTop (entryFrame m #[(.int p1)] 1)) t := by
            intro t kt
            refine k4 t ?_
            show Steps p.tables e below (s₁.setTop (mkF m 21 #[.val (.int p1)] [(.int (13 : Int32)), (.int p1)])) _
            refine XS.icmpNo X0.here hx rfl (hb hby own_d2_21) rfl (feq hc4).1 ?_
            show Steps p.tables e below (s₁.setTop (mkF m 24 #[.val (.int p1)] [])) _
            refine XS.iloadN X0.here hx rfl (hb hby own_d2_24) rfl ?_
            show Steps p.tables e below (s₁.setTop (mkF m 25 #[.val (.int p1)] [(.int p1)])) _
            refine XS.bipush X0.here hx rfl (hb hby own_d2_25) ?_
            exact kt
          by_cases hc5 : p1 = (12 : Int32)
          ·
            obtain ⟨fs, hr, hrun, hended, hW, hsame⟩ := X0.leave (v := some (.int (1 : Int32))) (fun h => by rw [Bd.returns] at h; cases h)
            refine ⟨_, _, k5 _ ?_, hrun, hended, _, _, rfl, ?_, ⟨_, rfl⟩, hW, hsame.mono (by decide) (by decide)⟩
            · show Steps p.tables e below (s₁.setTop (mkF m 27 #[.val (.int p1)] [(.int (12 : Int32)), (.int p1)])) _
              refine XS.icmpYes X0.here hx rfl (pc0 := 27) (pc' := 36) rfl (hb hby own_d2_27) rfl (teq hc5).1 (by decide) (by decide) ?_
              show Steps p.tables e below (s₁.setTop (mkF m 36 #[.val (.int p1)] [])) _
              refine XS.iconst X0.here hx rfl (hb hby own_d2_36) ?_
              show Steps p.tables e below (s₁.setTop (mkF m 37 #[.val (.int p1)] [(.int (1 : Int32))])) _
              refine XS.goto X0.here hx rfl (pc0 := 37) (pc' := 41) rfl (hb hby own_d2_37) (by decide) (by decide) ?_
              show Steps p.tables e below (s₁.setTop (mkF m 41 #[.val (.int p1)] [(.int (1 : Int32))])) _
              exact retN X0 hx (t := .boolean) Bd.returns (by simp) (hb hby own_d2_41) hr
            · show own_Q2 Z p1 h0 n0 _ s₁.heap _
              rw [e0]
              exact ⟨(by rw [own_f2, if_neg hc1, if_neg hc2, if_neg hc3, if_neg hc4, if_pos hc5]), N0, rfl⟩
          ·
            have k6 : ∀ t, Steps p.tables e below (s₁.setTop (mkF m 33 #[.val (.int p1)] [(.int (11 : Int32)), (.int p1)])) t → Steps p.tables e below (s₁.setTop (entryFrame m #[(.int p1)] 1)) t := by
              intro t kt
              refine k5 t ?_
              show Steps p.tables e below (s₁.setTop (mkF m 27 #[.val (.int p1)] [(.int (12 : Int32)), (.int p1)])) _
              refine XS.icmpNo X0.here hx rfl (hb hby own_d2_27) rfl (feq hc5).1 ?_
              show Steps p.tables e below (s₁.setTop (mkF m 30 #[.val (.int p1)] [])) _
              refine XS.iloadN X0.here hx rfl (hb hby own_d2_30) rfl ?_
              show Steps p.tables e below (s₁.setTop (mkF m 31 #[.val (.int p1)] [(.int p1)])) _
              refine XS.bipush X0.here hx rfl (hb hby own_d2_31) ?_
              exact kt
            by_cases hc6 : p1 = (11 : Int32)
            ·
              obtain ⟨fs, hr, hrun, hended, hW, hsame⟩ := X0.leave (v := some (.int (1 : Int32))) (fun h => by rw [Bd.returns] at h; cases h)
              refine ⟨_, _, k6 _ ?_, hrun, hended, _, _, rfl, ?_, ⟨_, rfl⟩, hW, hsame.mono (by decide) (by decide)⟩
              · show Steps p.tables e below (s₁.setTop (mkF m 33 #[.val (.int p1)] [(.int (11 : Int32)), (.int p1)])) _
                refine XS.icmpNo X0.here hx rfl (hb hby own_d2_33) rfl (teq hc6).2 ?_
                show Steps p.tables e below (s₁.setTop (mkF m 36 #[.val (.int p1)] [])) _
                refine XS.iconst X0.here hx rfl (hb hby own_d2_36) ?_
                show Steps p.tables e below (s₁.setTop (mkF m 37 #[.val (.int p1)] [(.int (1 : Int32))])) _
                refine XS.goto X0.here hx rfl (pc0 := 37) (pc' := 41) rfl (hb hby own_d2_37) (by decide) (by decide) ?_
                show Steps p.tables e below (s₁.setTop (mkF m 41 #[.val (.int p1)] [(.int (1 : Int32))])) _
                exact retN X0 hx (t := .boolean) Bd.returns (by simp) (hb hby own_d2_41) hr
              · show own_Q2 Z p1 h0 n0 _ s₁.heap _
                rw [e0]
                exact ⟨(by rw [own_f2, if_neg hc1, if_neg hc2, if_neg hc3, if_neg hc4, if_neg hc5, if_pos hc6]), N0, rfl⟩
            ·
              obtain ⟨fs, hr, hrun, hended, hW, hsame⟩ := X0.leave (v := some (.int (0 : Int32))) (fun h => by rw [Bd.returns] at h; cases h)
              refine ⟨_, _, k6 _ ?_, hrun, hended, _, _, rfl, ?_, ⟨_, rfl⟩, hW, hsame.mono (by decide) (by decide)⟩
              · show Steps p.tables e below (s₁.setTop (mkF m 33 #[.val (.int p1)] [(.int (11 : Int32)), (.int p1)])) _
                refine XS.icmpYes X0.here hx rfl (pc0 := 33) (pc' := 40) rfl (hb hby own_d2_33) rfl (feq hc6).2 (by decide) (by decide) ?_
                show Steps p.tables e below (s₁.setTop (mkF m 40 #[.val (.int p1)] [])) _
                refine XS.iconst X0.here hx rfl (hb hby own_d2_40) ?_
                show Steps p.tables e below (s₁.setTop (mkF m 41 #[.val (.int p1)] [(.int (0 : Int32))])) _
                exact retN X0 hx (t := .boolean) Bd.returns (by simp) (hb hby own_d2_41) hr
              · show own_Q2 Z p1 h0 n0 _ s₁.heap _
                rw [e0]
                exact ⟨(by rw [own_f2, if_neg hc1, if_neg hc2, if_neg hc3, if_neg hc4, if_neg hc5, if_neg hc6]), N0, rfl⟩
-- body 0
theorem own_ef0 (m : MethodId) (x0 : Int32) (x1 : Int32) (x2 : Int32) : entryFrame m #[(.int x0), (.int x1), (.int x2)] maxLocals = mkF m 0 #[.val (.int x0), .val (.int x1), .val (.int x2), .unset, .unset] [] := by first | (simp [entryFrame, mkF, argsToLocals, Value.category, maxLocals]; done) | rfl
def own_f0 (p1 : Int32) (p2 : Int32) (p3 : Int32) : Int32 := if (own_f1 p1 p2 p3) = (32 : Int32) then (if (own_f2 (own_f1 p1 p2 p3)) = (1 : Int32) then (1 : Int32)
      else (0 : Int32))
    else if (own_f1 p1 p2 p3) < (9 : Int32) then (if (own_f2 (own_f1 p1 p2 p3)) = (0 : Int32) then (1 : Int32)
        else (0 : Int32))
      else if (13 : Int32) < (own_f1 p1 p2 p3) then (if (own_f2 (own_f1 p1 p2 p3)) = (0 : Int32) then (1 : Int32)
          else (0 : Int32))
        else if (own_f2 (own_f1 p1 p2 p3)) = (1 : Int32) then (1 : Int32)
          else (0 : Int32)
def own_Q0 (Z : State) (p1 : Int32) (p2 : Int32) (p3 : Int32) (h0 : Heap) (n0 : Nat) (v : Option Value) (h : Heap) (L : List Loc) : Prop := v = some (.int (own_f0 p1 p2 p3)) ∧ Fr n0 L
set_option maxRecDepth 65536 in
set_option maxHeartbeats 40000000 in
theorem own_rm0 (l : Launch) (Z : State) (a0 : Array Value) (hw : ∀ d ∈ tables_1, d.before a0 Z = true) (ws : List Jvm.Cond) (p1 : Int32) (p2 : Int32) (p3 : Int32) (h0 : Heap) (n0 : Nat) (Z0 : n0 ≤ h0.size) :
    MetFree l x (head1 (Jvm.Cond.code x code maxLocals ret :: ws) room_1) (fun a U => a = #[(.int p1), (.int p2), (.int p3)] ∧ Z.Warmed39 U.vm ∧ U.heap = h0) (fun _ _ _ _ _ => True) (fun _ U o U' => ∃ v L, o = .returned v ∧ own_Q0 Z p1 p2 p3 h0 n0 v U'.heap L ∧ FrameEnd U o U' L room_1.cells room_1.slots) := by
  refine MetFree.of_bodySF (plainFor_of_name own_pn0) hisR ?_
  intro p e s m args below meth c s₁ Bd hml0 hP hK
  obtain ⟨rfl, hZ, hh⟩ := hP
  have hx := Bd.exec
  have hby := Bd.bytes
  have hml : c.maxLocals = 5 := hml0
  have hown : s.vm.findClass "com/example/kerb/kerb/sql/LexerIsWhitespacePinLaw" = some m.cls := findClass_of_methodNamed Bd.named
  have hnm := (name_of_methodNamed Bd.named Bd.method).1
  have X0 : Stand p l e room_1 s m #[(.int p1), (.int p2), (.int p3)] below meth c s₁ [] 0 0 := Stand.of_body Bd
  have e0 : s₁.heap = h0 := by rw [← hh, Bd.state]; rfl
  have N0 := Fr.nil n0
  have pre0 : ∀ t, Steps p.tables e below (s₁.setTop (mkF m 0 #[.val (.int p1), .val (.int p2), .val (.int p3), .unset, .unset] [])) t → Steps p.tables e below (s₁.setTop (entryFrame m #[(.int p1), (.int p2), (.int p3)] maxLocals)) t := fun t k => castTop (own_ef0 m p1 p2 p3) k
  obtain ⟨v1, _, ⟨T1, L1, k1, n1⟩, -, X1, ⟨Lc1, hQ1, l1, y1, z1⟩, st1⟩ := Jvm.LawKit.callS X0 hx (y := (⟨"com/example/kerb/kerb/sql/LexerIsWhitespacePinLaw", "pick", "(III)I"⟩ : MethodName)) hown (mvT hZ (hw _ (List.mem_of_getElem? (i := 0) rfl))) (mvT hZ (hw _ (List.mem_of_getElem? (i := 1) rfl))) (mvT hZ (hw _ (List.mem_of_getElem? (i := 2) rfl))) (mvT hZ (hw _ (List.mem_of_getElem? (i := 3) rfl))) (by decide) (backOf (W := 0) (own_rm1 l Z a0 hw [] p1 p2 p3 h0 n0 Z0) hZ (hw _ (List.mem_of_getElem? (i := 3) rfl)) (hw _ (List.mem_of_getElem? (i := 2) rfl)) (by decide) (by decide)) (g := (mkF m 3 #[.val (.int p1), .val (.int p2), .val (.int p3), .unset, .unset] [(.int p3), (.int p2), (.int p1)])) rfl (by rw [hml]; rfl) (argsL := [(.int p1), (.int p2), (.int p3)]) (rest := []) (lenOf own_pd54 rfl) rfl (by show 2 * 0 + _ ≤ _; exact Nat.le_of_eq rfl) (hb hby at_3) (fun _ _ => ⟨rfl, e0, (by decide : 0 + 0 ≤ _), (by decide : 0 + 0 ≤ _)⟩)
  dsimp only [Pt.U, Pt.locs, Pt.cells, Pt.slots] at X1 l1 y1 z1 st1 hQ1
  subst l1 y1 z1
  obtain ⟨rfl, N1q, e1⟩ := hQ1
  have N2 := Fr.app N0 N1q
  have k3 : ∀ t, Steps p.tables e below (T1.setTop (mkF m 10 #[.val (.int p1), .val (.int p2), .val (.int p3), .val (.int (own_f1 p1 p2 p3)), .unset] [(.int (32 : Int32)), (.int (own_f1 p1 p2 p3))])) t → Steps p.tables e below (s₁.setTop (entryFrame m #[(.int p1), (.int p2), (.int p3)] maxLocals)) t := by
    intro t kt
    refine pre0 t ?_
    show Steps p.tables e below (s₁.setTop (mkF m 0 #[.val (.int p1), .val (.int p2), .val (.int p3), .unset, .unset] [])) _
    refine XS.iloadN X0.here hx rfl (hb hby at_0) rfl ?_
    show Steps p.tables e below (s₁.setTop (mkF m 1 #[.val (.int p1), .val (.int p2), .val (.int p3), .unset, .unset] [(.int p1)])) _
    refine XS.iloadN X0.here hx rfl (hb hby at_1) rfl ?_
    show Steps p.tables e below (s₁.setTop (mkF m 2 #[.val (.int p1), .val (.int p2), .val (.int p3), .unset, .unset] [(.int p2), (.int p1)])) _
    refine XS.iloadN X0.here hx rfl (hb hby at_2) rfl ?_
    show Steps p.tables e below (s₁.setTop (mkF m 3 #[.val (.int p1), .val (.int p2), .val (.int p3), .unset, .unset] [(.int p3), (.int p2), (.int p1)])) _
    refine st1 _ ?_
    show Steps p.tables e below (T1.setTop (mkF m 6 #[.val (.int p1), .val (.int p2), .val (.int p3), .unset, .unset] [(.int (own_f1 p1 p2 p3))])) _
    refine XS.istoreN X1.here hx rfl (hb hby at_6) rfl (l' := #[.val (.int p1), .val (.int p2), .val (.int p3), .val (.int (own_f1 p1 p2 p3)), .unset]) rfl ?_
    show Steps p.tables e below (T1.setTop (mkF m 7 #[.val (.int p1), .val (.int p2), .val (.int p3), .val (.int (own_f1 p1 p2 p3)), .unset] [])) _
    refine XS.iloadN X1.here hx rfl (hb hby at_7) rfl ?_
    show Steps p.tables e below (T1.setTop (mkF m 8 #[.val (.int p1), .val (.int p2), .val (.int p3), .val (.int (own_f1 p1 p2 p3)), .unset] [(.int (own_f1 p1 p2 p3))])) _
    refine XS.bipush X1.here hx rfl (hb hby at_8) ?_
    exact kt
  by_cases hc1 : (own_f1 p1 p2 p3) = (32 : Int32)
  ·
    obtain ⟨v4, _, ⟨T4, L4, k4, n4⟩, -, X4, ⟨Lc4, hQ4, l4, y4, z4⟩, st4⟩ := Jvm.LawKit.callS X1 hx (y := (⟨"com/example/kerb/kerb/sql/Lexer", "isWhitespace", "(I)Z"⟩ : MethodName)) hown (mvT hZ (hw _ (List.mem_of_getElem? (i := 5) rfl))) (mvT hZ (hw _ (List.mem_of_getElem? (i := 6) rfl))) (mvT hZ (hw _ (List.mem_of_getElem? (i := 7) rfl))) (mvT hZ (hw _ (List.mem_of_getElem? (i := 8) rfl))) (by decide) (backOf (W := 0) (own_rm2 l Z a0 hw [] (own_f1 p1 p2 p3) h0 n0 Z0) hZ (hw _ (List.mem_of_getElem? (i := 8) rfl)) (hw _ (List.mem_of_getElem? (i := 7) rfl)) (by decide) (by decide)) (g := (mkF m 33 #[.val (.int p1), .val (.int p2), .val (.int p3), .val (.int (own_f1 p1 p2 p3)), .val (.int (1 : Int32))] [(.int (own_f1 p1 p2 p3))])) rfl (by rw [hml]; rfl) (argsL := [(.int (own_f1 p1 p2 p3))]) (rest := []) (lenOf own_pd55 rfl) rfl (by show 2 * 0 + _ ≤ _; exact Nat.le_of_eq rfl) (hb hby at_33) (fun _ _ => ⟨rfl, e1, (by decide : 0 + 0 ≤ _), (by decide : 0 + 0 ≤ _)⟩)
    dsimp only [Pt.U, Pt.locs, Pt.cells, Pt.slots] at X4 l4 y4 z4 st4 hQ4
    subst l4 y4 z4
    obtain ⟨rfl, N4q, e4⟩ := hQ4
    have N5 := Fr.app N2 N4q
    have k6 : ∀ t, Steps p.tables e below (T4.setTop (mkF m 38 #[.val (.int p1), .val (.int p2), .val (.int p3), .val (.int (own_f1 p1 p2 p3)), .val (.int (1 : Int32))] [(.int (1 : Int32)), (.int (own_f2 (own_f1 p1 p2 p3)))])) t → Steps p.tables e below (s₁.setTop (entryFrame m #[(.int p1), (.int p2), (.int p3)] maxLocals)) t := by
      intro t kt
      refine k3 t ?_
      show Steps p.tables e below (T1.setTop (mkF m 10 #[.val (.int p1), .val (.int p2), .val (.int p3), .val (.int (own_f1 p1 p2 p3)), .unset] [(.int (32 : Int32)), (.int (own_f1 p1 p2 p3))])) _
      refine XS.icmpYes X1.here hx rfl (pc0 := 10) (pc' := 25) rfl (hb hby at_10) rfl (teq hc1).1 (by decide) (by decide) ?_
      show Steps p.tables e below (T1.setTop (mkF m 25 #[.val (.int p1), .val (.int p2), .val (.int p3), .val (.int (own_f1 p1 p2 p3)), .unset] [])) _
      refine XS.iconst X1.here hx rfl (hb hby at_25) ?_
      show Steps p.tables e below (T1.setTop (mkF m 26 #[.val (.int p1), .val (.int p2), .val (.int p3), .val (.int (own_f1 p1 p2 p3)), .unset] [(.int (1 : Int32))])) _
      refine XS.goto X1.here hx rfl (pc0 := 26) (pc' := 30) rfl (hb hby at_26) (by decide) (by decide) ?_
      show Steps p.tables e below (T1.setTop (mkF m 30 #[.val (.int p1), .val (.int p2), .val (.int p3), .val (.int (own_f1 p1 p2 p3)), .unset] [(.int (1 : Int32))])) _
      refine XS.istore X1.here hx rfl (hb hby at_30) rfl (l' := #[.val (.int p1), .val (.int p2), .val (.int p3), .val (.int (own_f1 p1 p2 p3)), .val (.int (1 : Int32))]) rfl ?_
      show Steps p.tables e below (T1.setTop (mkF m 32 #[.val (.int p1), .val (.int p2), .val (.int p3), .val (.int (own_f1 p1 p2 p3)), .val (.int (1 : Int32))] [])) _
      refine XS.iloadN X1.here hx rfl (hb hby at_32) rfl ?_
      show Steps p.tables e below (T1.setTop (mkF m 33 #[.val (.int p1), .val (.int p2), .val (.int p3), .val (.int (own_f1 p1 p2 p3)), .val (.int (1 : Int32))] [(.int (own_f1 p1 p2 p3))])) _
      refine st4 _ ?_
      show Steps p.tables e below (T4.setTop (mkF m 36 #[.val (.int p1), .val (.int p2), .val (.int p3), .val (.int (own_f1 p1 p2 p3)), .val (.int (1 : Int32))] [(.int (own_f2 (own_f1 p1 p2 p3)))])) _
      refine XS.iload X4.here hx rfl (hb hby at_36) rfl ?_
      exact kt
    by_cases hc2 : (own_f2 (own_f1 p1 p2 p3)) = (1 : Int32)
    ·
      obtain ⟨fs, hr, hrun, hended, hW, hsame⟩ := X4.leave (v := some (.int (1 : Int32))) (fun h => by rw [Bd.returns] at h; cases h)
      refine ⟨_, _, k6 _ ?_, hrun, hended, _, _, rfl, ?_, ⟨_, rfl⟩, hW, hsame.mono (by decide) (by decide)⟩
      · show Steps p.tables e below (T4.setTop (mkF m 38 #[.val (.int p1), .val (.int p2), .val (.int p3), .val (.int (own_f1 p1 p2 p3)), .val (.int (1 : Int32))] [(.int (1 : Int32)), (.int (own_f2 (own_f1 p1 p2 p3)))])) _
        refine XS.icmpNo X4.here hx rfl (hb hby at_38) rfl (teq hc2).2 ?_
        show Steps p.tables e below (T4.setTop (mkF m 41 #[.val (.int p1), .val (.int p2), .val (.int p3), .val (.int (own_f1 p1 p2 p3)), .val (.int (1 : Int32))] [])) _
        refine XS.iconst X4.here hx rfl (hb hby at_41) ?_
        show Steps p.tables e below (T4.setTop (mkF m 42 #[.val (.int p1), .val (.int p2), .val (.int p3), .val (.int (own_f1 p1 p2 p3)), .val (.int (1 : Int32))] [(.int (1 : Int32))])) _
        refine XS.goto X4.here hx rfl (pc0 := 42) (pc' := 46) rfl (hb hby at_42) (by decide) (by decide) ?_
        show Steps p.tables e below (T4.setTop (mkF m 46 #[.val (.int p1), .val (.int p2), .val (.int p3), .val (.int (own_f1 p1 p2 p3)), .val (.int (1 : Int32))] [(.int (1 : Int32))])) _
        exact retN X4 hx (t := .boolean) Bd.returns (by simp) (hb hby at_46) hr
      · show own_Q0 Z p1 p2 p3 h0 n0 _ T4.heap _
        rw [e4]
        exact ⟨(by rw [own_f0, if_pos hc1, if_pos hc2]), N5⟩
    ·
      obtain ⟨fs, hr, hrun, hended, hW, hsame⟩ := X4.leave (v := some (.int (0 : Int32))) (fun h => by rw [Bd.returns] at h; cases h)
      refine ⟨_, _, k6 _ ?_, hrun, hended, _, _, rfl, ?_, ⟨_, rfl⟩, hW, hsame.mono (by decide) (by decide)⟩
      · show Steps p.tables e below (T4.setTop (mkF m 38 #[.val (.int p1), .val (.int p2), .val (.int p3), .val (.int (own_f1 p1 p2 p3)), .val (.int (1 : Int32))] [(.int (1 : Int32)), (.int (own_f2 (own_f1 p1 p2 p3)))])) _
        refine XS.icmpYes X4.here hx rfl (pc0 := 38) (pc' := 45) rfl (hb hby at_38) rfl (feq hc2).2 (by decide) (by decide) ?_
        show Steps p.tables e below (T4.setTop (mkF m 45 #[.val (.int p1), .val (.int p2), .val (.int p3), .val (.int (own_f1 p1 p2 p3)), .val (.int (1 : Int32))] [])) _
        refine XS.iconst X4.here hx rfl (hb hby at_45) ?_
        show Steps p.tables e below (T4.setTop (mkF m 46 #[.val (.int p1), .val (.int p2), .val (.int p3), .val (.int (own_f1 p1 p2 p3)), .val (.int (1 : Int32))] [(.int (0 : Int32))])) _
        exact retN X4 hx (t := .boolean) Bd.returns (by simp) (hb hby at_46) hr
      · show own_Q0 Z p1 p2 p3 h0 n0 _ T4.heap _
        rw [e4]
        exact ⟨(by rw [own_f0, if_pos hc1, if_neg hc2]), N5⟩
  ·
    have k7 : ∀ t, Steps p.tables e below (T1.setTop (mkF m 16 #[.val (.int p1), .val (.int p2), .val (.int p3), .val (.int (own_f1 p1 p2 p3)), .unset] [(.int (9 : Int32)), (.int (own_f1 p1 p2 p3))])) t → Steps p.tables e below (s₁.setTop (entryFrame m #[(.int p1), (.int p2), (.int p3)] maxLocals)) t := by
      intro t kt
      refine k3 t ?_
      show Steps p.tables e below (T1.setTop (mkF m 10 #[.val (.int p1), .val (.int p2), .val (.int p3), .val (.int (own_f1 p1 p2 p3)), .unset] [(.int (32 : Int32)), (.int (own_f1 p1 p2 p3))])) _
      refine XS.icmpNo X1.here hx rfl (hb hby at_10) rfl (feq hc1).1 ?_
      show Steps p.tables e below (T1.setTop (mkF m 13 #[.val (.int p1), .val (.int p2), .val (.int p3), .val (.int (own_f1 p1 p2 p3)), .unset] [])) _
      refine XS.iloadN X1.here hx rfl (hb hby at_13) rfl ?_
      show Steps p.tables e below (T1.setTop (mkF m 14 #[.val (.int p1), .val (.int p2), .val (.int p3), .val (.int (own_f1 p1 p2 p3)), .unset] [(.int (own_f1 p1 p2 p3))])) _
      refine XS.bipush X1.here hx rfl (hb hby at_14) ?_
      exact kt
    by_cases hc3 : (own_f1 p1 p2 p3) < (9 : Int32)
    ·
      obtain ⟨v8, _, ⟨T8, L8, k8, n8⟩, -, X8, ⟨Lc8, hQ8, l8, y8, z8⟩, st8⟩ := Jvm.LawKit.callS X1 hx (y := (⟨"com/example/kerb/kerb/sql/Lexer", "isWhitespace", "(I)Z"⟩ : MethodName)) hown (mvT hZ (hw _ (List.mem_of_getElem? (i := 5) rfl))) (mvT hZ (hw _ (List.mem_of_getElem? (i := 6) rfl))) (mvT hZ (hw _ (List.mem_of_getElem? (i := 7) rfl))) (mvT hZ (hw _ (List.mem_of_getElem? (i := 8) rfl))) (by decide) (backOf (W := 0) (own_rm2 l Z a0 hw [] (own_f1 p1 p2 p3) h0 n0 Z0) hZ (hw _ (List.mem_of_getElem? (i := 8) rfl)) (hw _ (List.mem_of_getElem? (i := 7) rfl)) (by decide) (by decide)) (g := (mkF m 33 #[.val (.int p1), .val (.int p2), .val (.int p3), .val (.int (own_f1 p1 p2 p3)), .val (.int (0 : Int32))] [(.int (own_f1 p1 p2 p3))])) rfl (by rw [hml]; rfl) (argsL := [(.int (own_f1 p1 p2 p3))]) (rest := []) (lenOf own_pd55 rfl) rfl (by show 2 * 0 + _ ≤ _; exact Nat.le_of_eq rfl) (hb hby at_33) (fun _ _ => ⟨rfl, e1, (by decide : 0 + 0 ≤ _), (by decide : 0 + 0 ≤ _)⟩)
      dsimp only [Pt.U, Pt.locs, Pt.cells, Pt.slots] at X8 l8 y8 z8 st8 hQ8
      subst l8 y8 z8
      obtain ⟨rfl, N8q, e8⟩ := hQ8
      have N9 := Fr.app N2 N8q
      have k10 : ∀ t, Steps p.tables e below (T8.setTop (mkF m 38 #[.val (.int p1), .val (.int p2), .val (.int p3), .val (.int (own_f1 p1 p2 p3)), .val (.int (0 : Int32))] [(.int (0 : Int32)), (.int (own_f2 (own_f1 p1 p2 p3)))])) t → Steps p.tables e below (s₁.setTop (entryFrame m #[(.int p1), (.int p2), (.int p3)] maxLocals)) t := by
        intro t kt
        refine k7 t ?_
        show Steps p.tables e below (T1.setTop (mkF m 16 #[.val (.int p1), .val (.int p2), .val (.int p3), .val (.int (own_f1 p1 p2 p3)), .unset] [(.int (9 : Int32)), (.int (own_f1 p1 p2 p3))])) _
        refine XS.icmpYes X1.here hx rfl (pc0 := 16) (pc' := 29) rfl (hb hby at_16) rfl (tlt hc3).1 (by decide) (by decide) ?_
        show Steps p.tables e below (T1.setTop (mkF m 29 #[.val (.int p1), .val (.int p2), .val (.int p3), .val (.int (own_f1 p1 p2 p3)), .unset] [])) _
        refine XS.iconst X1.here hx rfl (hb hby at_29) ?_
        show Steps p.tables e below (T1.setTop (mkF m 30 #[.val (.int p1), .val (.int p2), .val (.int p3), .val (.int (own_f1 p1 p2 p3)), .unset] [(.int (0 : Int32))])) _
        refine XS.istore X1.here hx rfl (hb hby at_30) rfl (l' := #[.val (.int p1), .val (.int p2), .val (.int p3), .val (.int (own_f1 p1 p2 p3)), .val (.int (0 : Int32))]) rfl ?_
        show Steps p.tables e below (T1.setTop (mkF m 32 #[.val (.int p1), .val (.int p2), .val (.int p3), .val (.int (own_f1 p1 p2 p3)), .val (.int (0 : Int32))] [])) _
        refine XS.iloadN X1.here hx rfl (hb hby at_32) rfl ?_
        show Steps p.tables e below (T1.setTop (mkF m 33 #[.val (.int p1), .val (.int p2), .val (.int p3), .val (.int (own_f1 p1 p2 p3)), .val (.int (0 : Int32))] [(.int (own_f1 p1 p2 p3))])) _
        refine st8 _ ?_
        show Steps p.tables e below (T8.setTop (mkF m 36 #[.val (.int p1), .val (.int p2), .val (.int p3), .val (.int (own_f1 p1 p2 p3)), .val (.int (0 : Int32))] [(.int (own_f2 (own_f1 p1 p2 p3)))])) _
        refine XS.iload X8.here hx rfl (hb hby at_36) rfl ?_
        exact kt
      by_cases hc4 : (own_f2 (own_f1 p1 p2 p3)) = (0 : Int32)
      ·
        obtain ⟨fs, hr, hrun, hended, hW, hsame⟩ := X8.leave (v := some (.int (1 : Int32))) (fun h => by rw [Bd.returns] at h; cases h)
        refine ⟨_, _, k10 _ ?_, hrun, hended, _, _, rfl, ?_, ⟨_, rfl⟩, hW, hsame.mono (by decide) (by decide)⟩
        · show Steps p.tables e below (T8.setTop (mkF m 38 #[.val (.int p1), .val (.int p2), .val (.int p3), .val (.int (own_f1 p1 p2 p3)), .val (.int (0 : Int32))] [(.int (0 : Int32)), (.int (own_f2 (own_f1 p1 p2 p3)))])) _
          refine XS.icmpNo X8.here hx rfl (hb hby at_38) rfl (teq hc4).2 ?_
          show Steps p.tables e below (T8.setTop (mkF m 41 #[.val (.int p1), .val (.int p2), .val (.int p3), .val (.int (own_f1 p1 p2 p3)), .val (.int (0 : Int32))] [])) _
          refine XS.iconst X8.here hx rfl (hb hby at_41) ?_
          show Steps p.tables e below (T8.setTop (mkF m 42 #[.val (.int p1), .val (.int p2), .val (.int p3), .val (.int (own_f1 p1 p2 p3)), .val (.int (0 : Int32))] [(.int (1 : Int32))])) _
          refine XS.goto X8.here hx rfl (pc0 := 42) (pc' := 46) rfl (hb hby at_42) (by decide) (by decide) ?_
          show Steps p.tables e below (T8.setTop (mkF m 46 #[.val (.int p1), .val (.int p2), .val (.int p3), .val (.int (own_f1 p1 p2 p3)), .val (.int (0 : Int32))] [(.int (1 : Int32))])) _
          exact retN X8 hx (t := .boolean) Bd.returns (by simp) (hb hby at_46) hr
        · show own_Q0 Z p1 p2 p3 h0 n0 _ T8.heap _
          rw [e8]
          exact ⟨(by rw [own_f0, if_neg hc1, if_pos hc3, if_pos hc4]), N9⟩
      ·
        obtain ⟨fs, hr, hrun, hended, hW, hsame⟩ := X8.leave (v := some (.int (0 : Int32))) (fun h => by rw [Bd.returns] at h; cases h)
        refine ⟨_, _, k10 _ ?_, hrun, hended, _, _, rfl, ?_, ⟨_, rfl⟩, hW, hsame.mono (by decide) (by decide)⟩
        · show Steps p.tables e below (T8.setTop (mkF m 38 #[.val (.int p1), .val (.int p2), .val (.int p3), .val (.int (own_f1 p1 p2 p3)), .val (.int (0 : Int32))] [(.int (0 : Int32)), (.int (own_f2 (own_f1 p1 p2 p3)))])) _
          refine XS.icmpYes X8.here hx rfl (pc0 := 38) (pc' := 45) rfl (hb hby at_38) rfl (feq hc4).2 (by decide) (by decide) ?_
          show Steps p.tables e below (T8.setTop (mkF m 45 #[.val (.int p1), .val (.int p2), .val (.int p3), .val (.int (own_f1 p1 p2 p3)), .val (.int (0 : Int32))] [])) _
          refine XS.iconst X8.here hx rfl (hb hby at_45) ?_
          show Steps p.tables e below (T8.setTop (mkF m 46 #[.val (.int p1), .val (.int p2), .val (.int p3), .val (.int (own_f1 p1 p2 p3)), .val (.int (0 : Int32))] [(.int (0 : Int32))])) _
          exact retN X8 hx (t := .boolean) Bd.returns (by simp) (hb hby at_46) hr
        · show own_Q0 Z p1 p2 p3 h0 n0 _ T8.heap _
          rw [e8]
          exact ⟨(by rw [own_f0, if_neg hc1, if_pos hc3, if_neg hc4]), N9⟩
    ·
      have k11 : ∀ t, Steps p.tables e below (T1.setTop (mkF m 22 #[.val (.int p1), .val (.int p2), .val (.int p3), .val (.int (own_f1 p1 p2 p3)), .unset] [(.int (13 : Int32)), (.int (own_f1 p1 p2 p3))])) t → Steps p.tables e below (s₁.setTop (entryFrame m #[(.int p1), (.int p2), (.int p3)] maxLocals)) t := by
        intro t kt
        refine k7 t ?_
        show Steps p.tables e below (T1.setTop (mkF m 16 #[.val (.int p1), .val (.int p2), .val (.int p3), .val (.int (own_f1 p1 p2 p3)), .unset] [(.int (9 : Int32)), (.int (own_f1 p1 p2 p3))])) _
        refine XS.icmpNo X1.here hx rfl (hb hby at_16) rfl (flt hc3).1 ?_
        show Steps p.tables e below (T1.setTop (mkF m 19 #[.val (.int p1), .val (.int p2), .val (.int p3), .val (.int (own_f1 p1 p2 p3)), .unset] [])) _
        refine XS.iloadN X1.here hx rfl (hb hby at_19) rfl ?_
        show Steps p.tables e below (T1.setTop (mkF m 20 #[.val (.int p1), .val (.int p2), .val (.int p3), .val (.int (own_f1 p1 p2 p3)), .unset] [(.int (own_f1 p1 p2 p3))])) _
        refine XS.bipush X1.here hx rfl (hb hby at_20) ?_
        exact kt
      by_cases hc5 : (13 : Int32) < (own_f1 p1 p2 p3)
      ·
        obtain ⟨v12, _, ⟨T12, L12, k12, n12⟩, -, X12, ⟨Lc12, hQ12, l12, y12, z12⟩, st12⟩ := Jvm.LawKit.callS X1 hx (y := (⟨"com/example/kerb/kerb/sql/Lexer", "isWhitespace", "(I)Z"⟩ : MethodName)) hown (mvT hZ (hw _ (List.mem_of_getElem? (i := 5) rfl))) (mvT hZ (hw _ (List.mem_of_getElem? (i := 6) rfl))) (mvT hZ (hw _ (List.mem_of_getElem? (i := 7) rfl))) (mvT hZ (hw _ (List.mem_of_getElem? (i := 8) rfl))) (by decide) (backOf (W := 0) (own_rm2 l Z a0 hw [] (own_f1 p1 p2 p3) h0 n0 Z0) hZ (hw _ (List.mem_of_getElem? (i := 8) rfl)) (hw _ (List.mem_of_getElem? (i := 7) rfl)) (by decide) (by decide)) (g := (mkF m 33 #[.val (.int p1), .val (.int p2), .val (.int p3), .val (.int (own_f1 p1 p2 p3)), .val (.int (0 : Int32))] [(.int (own_f1 p1 p2 p3))])) rfl (by rw [hml]; rfl) (argsL := [(.int (own_f1 p1 p2 p3))]) (rest := []) (lenOf own_pd55 rfl) rfl (by show 2 * 0 + _ ≤ _; exact Nat.le_of_eq rfl) (hb hby at_33) (fun _ _ => ⟨rfl, e1, (by decide : 0 + 0 ≤ _), (by decide : 0 + 0 ≤ _)⟩)
        dsimp only [Pt.U, Pt.locs, Pt.cells, Pt.slots] at X12 l12 y12 z12 st12 hQ12
        subst l12 y12 z12
        obtain ⟨rfl, N12q, e12⟩ := hQ12
        have N13 := Fr.app N2 N12q
        have k14 : ∀ t, Steps p.tables e below (T12.setTop (mkF m 38 #[.val (.int p1), .val (.int p2), .val (.int p3), .val (.int (own_f1 p1 p2 p3)), .val (.int (0 : Int32))] [(.int (0 : Int32)), (.int (own_f2 (own_f1 p1 p2 p3)))])) t → Steps p.tables e below (s₁.setTop (entryFrame m #[(.int p1), (.int p2), (.int p3)] maxLocals)) t := by
          intro t kt
          refine k11 t ?_
          show Steps p.tables e below (T1.setTop (mkF m 22 #[.val (.int p1), .val (.int p2), .val (.int p3), .val (.int (own_f1 p1 p2 p3)), .unset] [(.int (13 : Int32)), (.int (own_f1 p1 p2 p3))])) _
          refine XS.icmpYes X1.here hx rfl (pc0 := 22) (pc' := 29) rfl (hb hby at_22) rfl (tlt hc5).2.2.1 (by decide) (by decide) ?_
          show Steps p.tables e below (T1.setTop (mkF m 29 #[.val (.int p1), .val (.int p2), .val (.int p3), .val (.int (own_f1 p1 p2 p3)), .unset] [])) _
          refine XS.iconst X1.here hx rfl (hb hby at_29) ?_
          show Steps p.tables e below (T1.setTop (mkF m 30 #[.val (.int p1), .val (.int p2), .val (.int p3), .val (.int (own_f1 p1 p2 p3)), .unset] [(.int (0 : Int32))])) _
          refine XS.istore X1.here hx rfl (hb hby at_30) rfl (l' := #[.val (.int p1), .val (.int p2), .val (.int p3), .val (.int (own_f1 p1 p2 p3)), .val (.int (0 : Int32))]) rfl ?_
          show Steps p.tables e below (T1.setTop (mkF m 32 #[.val (.int p1), .val (.int p2), .val (.int p3), .val (.int (own_f1 p1 p2 p3)), .val (.int (0 : Int32))] [])) _
          refine XS.iloadN X1.here hx rfl (hb hby at_32) rfl ?_
          show Steps p.tables e below (T1.setTop (mkF m 33 #[.val (.int p1), .val (.int p2), .val (.int p3), .val (.int (own_f1 p1 p2 p3)), .val (.int (0 : Int32))] [(.int (own_f1 p1 p2 p3))])) _
          refine st12 _ ?_
          show Steps p.tables e below (T12.setTop (mkF m 36 #[.val (.int p1), .val (.int p2), .val (.int p3), .val (.int (own_f1 p1 p2 p3)), .val (.int (0 : Int32))] [(.int (own_f2 (own_f1 p1 p2 p3)))])) _
          refine XS.iload X12.here hx rfl (hb hby at_36) rfl ?_
          exact kt
        by_cases hc6 : (own_f2 (own_f1 p1 p2 p3)) = (0 : Int32)
        ·
          obtain ⟨fs, hr, hrun, hended, hW, hsame⟩ := X12.leave (v := some (.int (1 : Int32))) (fun h => by rw [Bd.returns] at h; cases h)
          refine ⟨_, _, k14 _ ?_, hrun, hended, _, _, rfl, ?_, ⟨_, rfl⟩, hW, hsame.mono (by decide) (by decide)⟩
          · show Steps p.tables e below (T12.setTop (mkF m 38 #[.val (.int p1), .val (.int p2), .val (.int p3), .val (.int (own_f1 p1 p2 p3)), .val (.int (0 : Int32))] [(.int (0 : Int32)), (.int (own_f2 (own_f1 p1 p2 p3)))])) _
            refine XS.icmpNo X12.here hx rfl (hb hby at_38) rfl (teq hc6).2 ?_
            show Steps p.tables e below (T12.setTop (mkF m 41 #[.val (.int p1), .val (.int p2), .val (.int p3), .val (.int (own_f1 p1 p2 p3)), .val (.int (0 : Int32))] [])) _
            refine XS.iconst X12.here hx rfl (hb hby at_41) ?_
            show Steps p.tables e below (T12.setTop (mkF m 42 #[.val (.int p1), .val (.int p2), .val (.int p3), .val (.int (own_f1 p1 p2 p3)), .val (.int (0 : Int32))] [(.int (1 : Int32))])) _
            refine XS.goto X12.here hx rfl (pc0 := 42) (pc' := 46) rfl (hb hby at_42) (by decide) (by decide) ?_
            show Steps p.tables e below (T12.setTop (mkF m 46 #[.val (.int p1), .val (.int p2), .val (.int p3), .val (.int (own_f1 p1 p2 p3)), .val (.int (0 : Int32))] [(.int (1 : Int32))])) _
            exact retN X12 hx (t := .boolean) Bd.returns (by simp) (hb hby at_46) hr
          · show own_Q0 Z p1 p2 p3 h0 n0 _ T12.heap _
            rw [e12]
            exact ⟨(by rw [own_f0, if_neg hc1, if_neg hc3, if_pos hc5, if_pos hc6]), N13⟩
        ·
          obtain ⟨fs, hr, hrun, hended, hW, hsame⟩ := X12.leave (v := some (.int (0 : Int32))) (fun h => by rw [Bd.returns] at h; cases h)
          refine ⟨_, _, k14 _ ?_, hrun, hended, _, _, rfl, ?_, ⟨_, rfl⟩, hW, hsame.mono (by decide) (by decide)⟩
          · show Steps p.tables e below (T12.setTop (mkF m 38 #[.val (.int p1), .val (.int p2), .val (.int p3), .val (.int (own_f1 p1 p2 p3)), .val (.int (0 : Int32))] [(.int (0 : Int32)), (.int (own_f2 (own_f1 p1 p2 p3)))])) _
            refine XS.icmpYes X12.here hx rfl (pc0 := 38) (pc' := 45) rfl (hb hby at_38) rfl (feq hc6).2 (by decide) (by decide) ?_
            show Steps p.tables e below (T12.setTop (mkF m 45 #[.val (.int p1), .val (.int p2), .val (.int p3), .val (.int (own_f1 p1 p2 p3)), .val (.int (0 : Int32))] [])) _
            refine XS.iconst X12.here hx rfl (hb hby at_45) ?_
            show Steps p.tables e below (T12.setTop (mkF m 46 #[.val (.int p1), .val (.int p2), .val (.int p3), .val (.int (own_f1 p1 p2 p3)), .val (.int (0 : Int32))] [(.int (0 : Int32))])) _
            exact retN X12 hx (t := .boolean) Bd.returns (by simp) (hb hby at_46) hr
          · show own_Q0 Z p1 p2 p3 h0 n0 _ T12.heap _
            rw [e12]
            exact ⟨(by rw [own_f0, if_neg hc1, if_neg hc3, if_pos hc5, if_neg hc6]), N13⟩
      ·
        obtain ⟨v15, _, ⟨T15, L15, k15, n15⟩, -, X15, ⟨Lc15, hQ15, l15, y15, z15⟩, st15⟩ := Jvm.LawKit.callS X1 hx (y := (⟨"com/example/kerb/kerb/sql/Lexer", "isWhitespace", "(I)Z"⟩ : MethodName)) hown (mvT hZ (hw _ (List.mem_of_getElem? (i := 5) rfl))) (mvT hZ (hw _ (List.mem_of_getElem? (i := 6) rfl))) (mvT hZ (hw _ (List.mem_of_getElem? (i := 7) rfl))) (mvT hZ (hw _ (List.mem_of_getElem? (i := 8) rfl))) (by decide) (backOf (W := 0) (own_rm2 l Z a0 hw [] (own_f1 p1 p2 p3) h0 n0 Z0) hZ (hw _ (List.mem_of_getElem? (i := 8) rfl)) (hw _ (List.mem_of_getElem? (i := 7) rfl)) (by decide) (by decide)) (g := (mkF m 33 #[.val (.int p1), .val (.int p2), .val (.int p3), .val (.int (own_f1 p1 p2 p3)), .val (.int (1 : Int32))] [(.int (own_f1 p1 p2 p3))])) rfl (by rw [hml]; rfl) (argsL := [(.int (own_f1 p1 p2 p3))]) (rest := []) (lenOf own_pd55 rfl) rfl (by show 2 * 0 + _ ≤ _; exact Nat.le_of_eq rfl) (hb hby at_33) (fun _ _ => ⟨rfl, e1, (by decide : 0 + 0 ≤ _), (by decide : 0 + 0 ≤ _)⟩)
        dsimp only [Pt.U, Pt.locs, Pt.cells, Pt.slots] at X15 l15 y15 z15 st15 hQ15
        subst l15 y15 z15
        obtain ⟨rfl, N15q, e15⟩ := hQ15
        have N16 := Fr.app N2 N15q
        have k17 : ∀ t, Steps p.tables e below (T15.setTop (mkF m 38 #[.val (.int p1), .val (.int p2), .val (.int p3), .val (.int (own_f1 p1 p2 p3)), .val (.int (1 : Int32))] [(.int (1 : Int32)), (.int (own_f2 (own_f1 p1 p2 p3)))])) t → Steps p.tables e below (s₁.setTop (entryFrame m #[(.int p1), (.int p2), (.int p3)] maxLocals)) t := by
          intro t kt
          refine k11 t ?_
          show Steps p.tables e below (T1.setTop (mkF m 22 #[.val (.int p1), .val (.int p2), .val (.int p3), .val (.int (own_f1 p1 p2 p3)), .unset] [(.int (13 : Int32)), (.int (own_f1 p1 p2 p3))])) _
          refine XS.icmpNo X1.here hx rfl (hb hby at_22) rfl (flt hc5).2.2.1 ?_
          show Steps p.tables e below (T1.setTop (mkF m 25 #[.val (.int p1), .val (.int p2), .val (.int p3), .val (.int (own_f1 p1 p2 p3)), .unset] [])) _
          refine XS.iconst X1.here hx rfl (hb hby at_25) ?_
          show Steps p.tables e below (T1.setTop (mkF m 26 #[.val (.int p1), .val (.int p2), .val (.int p3), .val (.int (own_f1 p1 p2 p3)), .unset] [(.int (1 : Int32))])) _
          refine XS.goto X1.here hx rfl (pc0 := 26) (pc' := 30) rfl (hb hby at_26) (by decide) (by decide) ?_
          show Steps p.tables e below (T1.setTop (mkF m 30 #[.val (.int p1), .val (.int p2), .val (.int p3), .val (.int (own_f1 p1 p2 p3)), .unset] [(.int (1 : Int32))])) _
          refine XS.istore X1.here hx rfl (hb hby at_30) rfl (l' := #[.val (.int p1), .val (.int p2), .val (.int p3), .val (.int (own_f1 p1 p2 p3)), .val (.int (1 : Int32))]) rfl ?_
          show Steps p.tables e below (T1.setTop (mkF m 32 #[.val (.int p1), .val (.int p2), .val (.int p3), .val (.int (own_f1 p1 p2 p3)), .val (.int (1 : Int32))] [])) _
          refine XS.iloadN X1.here hx rfl (hb hby at_32) rfl ?_
          show Steps p.tables e below (T1.setTop (mkF m 33 #[.val (.int p1), .val (.int p2), .val (.int p3), .val (.int (own_f1 p1 p2 p3)), .val (.int (1 : Int32))] [(.int (own_f1 p1 p2 p3))])) _
          refine st15 _ ?_
          show Steps p.tables e below (T15.setTop (mkF m 36 #[.val (.int p1), .val (.int p2), .val (.int p3), .val (.int (own_f1 p1 p2 p3)), .val (.int (1 : Int32))] [(.int (own_f2 (own_f1 p1 p2 p3)))])) _
          refine XS.iload X15.here hx rfl (hb hby at_36) rfl ?_
          exact kt
        by_cases hc7 : (own_f2 (own_f1 p1 p2 p3)) = (1 : Int32)
        ·
          obtain ⟨fs, hr, hrun, hended, hW, hsame⟩ := X15.leave (v := some (.int (1 : Int32))) (fun h => by rw [Bd.returns] at h; cases h)
          refine ⟨_, _, k17 _ ?_, hrun, hended, _, _, rfl, ?_, ⟨_, rfl⟩, hW, hsame.mono (by decide) (by decide)⟩
          · show Steps p.tables e below (T15.setTop (mkF m 38 #[.val (.int p1), .val (.int p2), .val (.int p3), .val (.int (own_f1 p1 p2 p3)), .val (.int (1 : Int32))] [(.int (1 : Int32)), (.int (own_f2 (own_f1 p1 p2 p3)))])) _
            refine XS.icmpNo X15.here hx rfl (hb hby at_38) rfl (teq hc7).2 ?_
            show Steps p.tables e below (T15.setTop (mkF m 41 #[.val (.int p1), .val (.int p2), .val (.int p3), .val (.int (own_f1 p1 p2 p3)), .val (.int (1 : Int32))] [])) _
            refine XS.iconst X15.here hx rfl (hb hby at_41) ?_
            show Steps p.tables e below (T15.setTop (mkF m 42 #[.val (.int p1), .val (.int p2), .val (.int p3), .val (.int (own_f1 p1 p2 p3)), .val (.int (1 : Int32))] [(.int (1 : Int32))])) _
            refine XS.goto X15.here hx rfl (pc0 := 42) (pc' := 46) rfl (hb hby at_42) (by decide) (by decide) ?_
            show Steps p.tables e below (T15.setTop (mkF m 46 #[.val (.int p1), .val (.int p2), .val (.int p3), .val (.int (own_f1 p1 p2 p3)), .val (.int (1 : Int32))] [(.int (1 : Int32))])) _
            exact retN X15 hx (t := .boolean) Bd.returns (by simp) (hb hby at_46) hr
          · show own_Q0 Z p1 p2 p3 h0 n0 _ T15.heap _
            rw [e15]
            exact ⟨(by rw [own_f0, if_neg hc1, if_neg hc3, if_neg hc5, if_pos hc7]), N16⟩
        ·
          obtain ⟨fs, hr, hrun, hended, hW, hsame⟩ := X15.leave (v := some (.int (0 : Int32))) (fun h => by rw [Bd.returns] at h; cases h)
          refine ⟨_, _, k17 _ ?_, hrun, hended, _, _, rfl, ?_, ⟨_, rfl⟩, hW, hsame.mono (by decide) (by decide)⟩
          · show Steps p.tables e below (T15.setTop (mkF m 38 #[.val (.int p1), .val (.int p2), .val (.int p3), .val (.int (own_f1 p1 p2 p3)), .val (.int (1 : Int32))] [(.int (1 : Int32)), (.int (own_f2 (own_f1 p1 p2 p3)))])) _
            refine XS.icmpYes X15.here hx rfl (pc0 := 38) (pc' := 45) rfl (hb hby at_38) rfl (feq hc7).2 (by decide) (by decide) ?_
            show Steps p.tables e below (T15.setTop (mkF m 45 #[.val (.int p1), .val (.int p2), .val (.int p3), .val (.int (own_f1 p1 p2 p3)), .val (.int (1 : Int32))] [])) _
            refine XS.iconst X15.here hx rfl (hb hby at_45) ?_
            show Steps p.tables e below (T15.setTop (mkF m 46 #[.val (.int p1), .val (.int p2), .val (.int p3), .val (.int (own_f1 p1 p2 p3)), .val (.int (1 : Int32))] [(.int (0 : Int32))])) _
            exact retN X15 hx (t := .boolean) Bd.returns (by simp) (hb hby at_46) hr
          · show own_Q0 Z p1 p2 p3 h0 n0 _ T15.heap _
            rw [e15]
            exact ⟨(by rw [own_f0, if_neg hc1, if_neg hc3, if_neg hc5, if_neg hc7]), N16⟩
theorem own_eqi (a b : Int32) : (a = b) = (a.toInt = b.toInt) := by rw [Int32.toInt_inj]
theorem own_lits : (32 : Int32).toInt = 32 ∧ (9 : Int32).toInt = 9 ∧ (10 : Int32).toInt = 10 ∧ (11 : Int32).toInt = 11 ∧ (12 : Int32).toInt = 12 ∧ (13 : Int32).toInt = 13 := by decide
theorem own_yes (c : Int32) (h : c.toInt = 32 ∨ (9 ≤ c.toInt ∧ c.toInt ≤ 13)) : own_f2 c = 1 := by
  obtain ⟨e1, e2, e3, e4, e5, e6⟩ := own_lits
  unfold own_f2
  simp only [own_eqi c, e1, e2, e3, e4, e5, e6]
  repeat' split
  all_goals first | rfl | omega
theorem own_no (c : Int32) (h : ¬ (c.toInt = 32 ∨ (9 ≤ c.toInt ∧ c.toInt ≤ 13))) : own_f2 c = 0 := by
  obtain ⟨e1, e2, e3, e4, e5, e6⟩ := own_lits
  unfold own_f2
  simp only [own_eqi c, e1, e2, e3, e4, e5, e6]
  repeat' split
  all_goals first | rfl | omega
theorem own_law (p1 p2 p3 : Int32) : own_f0 p1 p2 p3 = 1 := by
  unfold own_f0
  generalize own_f1 p1 p2 p3 = c
  obtain ⟨e1, e2, e3, e4, e5, e6⟩ := own_lits
  simp only [own_eqi c, Int32.lt_iff_toInt_lt, e1, e2, e6]
  by_cases h : c.toInt = 32 ∨ (9 ≤ c.toInt ∧ c.toInt ≤ 13)
  · rw [own_yes c h]
    repeat' split
    all_goals first | rfl | omega | contradiction
  · rw [own_no c h]
    repeat' split
    all_goals first | rfl | omega | contradiction
set_option maxRecDepth 65536 in
set_option maxHeartbeats 40000000 in
theorem comes_1 {Post : Tables → Env → Array Value → State → Outcome → State → Prop} (hpost : ∀ tb e args s v u, (limb_1_1.after args s (.returned v) u = true ∧ limb_1_2.after args s (.returned v) u = true ∧ True) → FrameEnd s (.returned v) u (Jvm.fieldLocs frame_1_writes args s ++ Jvm.arrayLocs frame_1_arrays args s ++ Jvm.staticLocs frame_1_statics s) 0 0 → Post tb e args s (.returned v) u) :
    ArmFor flags0 classFile x code maxLocals ret World_1 tables_1 room_1 Calls_1 rest_1 Pre_1 Post := by
  intro l hfl _ _ p e ha hc hk s m args below hf hA hF happ hP
  obtain ⟨hcalls, hrest, hpre⟩ := hP
  obtain ⟨-, -, -, hnamed, -, -, -, hat⟩ := (Spec.applies_iff hf).mp happ
  obtain ⟨hg, hn⟩ := and_e (Cond.before_iff.mp (show (Jvm.Cond.and given_1 narrow_1).before args s = true from hpre))
  obtain ⟨gg1, gg2⟩ := and_e hg
  obtain ⟨gg3, gg4⟩ := and_e gg2
  obtain ⟨gg5, gg6⟩ := and_e gg4
  obtain ⟨w0, w1, w2, rfl⟩ : ∃ w0 w1 w2 : Value, args = #[w0, w1, w2] := by
    have hs : args.size = 3 := by simpa [Cond.value, given_1] using gg1
    obtain ⟨L⟩ := args
    match L, hs with
    | [w0, w1, w2], _ => exact ⟨w0, w1, w2, rfl⟩
  have hw := fun d (hd : d ∈ tables_1) => atoms_spec (ws := Jvm.Cond.code x code maxLocals ret :: tables_1) hat d (List.mem_cons_of_mem _ hd)
  have hfit : Fit s := fun {y c} hc i hi => by
    obtain ⟨ha, rfl⟩ := Array.getElem?_eq_some_iff.mp hc
    have q := List.all_eq_true.mp ((Array.all_eq_true_iff_forall_mem.mp hF) _ (Array.getElem_mem ha)) i (List.mem_range.mpr hi)
    simpa [Array.getElem?_eq_getElem hi] using q
  obtain ⟨i0, ei0⟩ := is_v gg3
  obtain rfl : w0 = (.int i0) := Option.some.inj ei0
  obtain ⟨i1, ei1⟩ := is_v gg5
  obtain rfl : w1 = (.int i1) := Option.some.inj ei1
  obtain ⟨i2, ei2⟩ := is_v gg6
  obtain rfl : w2 = (.int i2) := Option.some.inj ei2
  obtain ⟨n, o, h1, h2, h3, _, L, rfl, ⟨rfl, N⟩, hq⟩ := own_rm0 l s _ hw tables_1 i0 i1 i2 s.heap s.heap.size (Nat.le_refl _) p e ha hc hk s m _ below hf ((Spec.applies_iff_loose hf).mp happ).1 ⟨rfl, State.Warmed39.refl s, rfl⟩ trivial
  refine ⟨n, _, h1, h2, h3, hpost _ _ _ _ _ _ ⟨Cond.after_iff.mpr rfl, Cond.after_iff.mpr (eq_i res_at (Term.int_eval (1)) (congrArg Value.int (own_law i0 i1 i2))), trivial⟩ ⟨hq.1, hq.2.1, (hq.2.2.sift fun y hy => Or.inr (N y hy)).mono (by decide) (by decide)⟩⟩
theorem main_1_1 : Claimed_1_1 := comes_1 fun _ _ _ _ _ _ h hF => ⟨h.1, hF⟩
theorem main_1_2 : Claimed_1_2 := comes_1 fun _ _ _ _ _ _ h hF => ⟨h.2.1, hF⟩
end Jvm.Pilot.@@N@@
namespace Jvm.Pilot.@@N@@
open Jvm Jvm.ClassFile Sem Op Lib Jvm.Free Jvm.Stand Jvm.Pilot.@@N@@.Jvm.D
/-! MADE BY PROGRAM (witnessworld.py) out of the Statement's table words and the real class files: 9 classes; the members and pool entries that the words name. The judged class is class 1, her method 2. -/
namespace start1
open Jvm.ClassFile
def u (s : String) : CpInfo := .utf8 (stringToUtf16 s)
/-- a pool by its gaps: so many unusable entries, then the entry; so many at the end -/
def gap : Nat → List CpInfo → List CpInfo
  | 0, r => r
  | n + 1, r => .unusable :: gap n r
def poolList (es : List (Nat × CpInfo)) (last : Nat) : List CpInfo := es.foldr (fun e r => gap e.1 (e.2 :: r)) (gap last [])
def pool (es : List (Nat × CpInfo)) (last : Nat) : Array CpInfo := ⟨poolList es last⟩
def fileOf (pool : Array CpInfo) (this : Nat) (attrs : Array Attribute := #[]) (ms : Array MethodInfo := #[]) (fl : Nat := 33) (sup : Nat := 0) (ifs : Array Nat := #[]) (fds : Array FieldInfo := #[]) : ClassFile where
  minorVersion := 0
  majorVersion := 65
  constantPool := pool
  accessFlags := fl
  thisClass := this
  superClass := sup
  interfaces := ifs
  fields := fds
  methods := ms
  attributes := attrs
def plain (name : String) (sup : Option ClassId) : Class where
  name := name
  kind := .ordinary
  loader := none
  accessFlags := 33
  super := sup
  interfaces := #[]
  cf := none
  fields := #[]
  methods := #[]
  instanceTypes := #[]
  staticTypes := #[]
  resolved := #[]
  callSites := []
  init := .initialized
  statics := none
  mirror := none

def pool0 : Array CpInfo := pool [(5, u "<init>"), (0, u "()V"), (1, .class_ 10), (1, u "java/lang/Object")] 113

def k0m0 : Method := { name := "<init>", desc := "()V", sig := { parameters := [], returnType := none }, accessFlags := 1, code := none }
/-- java/lang/Object -/
def k0 : Class := { plain "java/lang/Object" none with
  accessFlags := 33
  interfaces := #[]
  cf := some (fileOf pool0 8 #[] #[{ accessFlags := 1, nameIndex := 5, descriptorIndex := 6, attributes := #[] }] 33 0 #[] #[])
  fields := #[]
  methods := #[k0m0]
  instanceTypes := #[]
  staticTypes := #[]
  resolved := Array.replicate 124 none
  statics := none }

def pool1 : Array CpInfo := pool [(2, .class_ 4), (1, u "java/lang/Object"), (0, u "<init>"), (0, u "()V"), (0, .integer 65535), (0, .methodref 9 10), (0, .class_ 11), (0, .nameAndType 12 13), (0, u "com/example/kerb/kerb/sql/LexerIsWhitespacePinLaw"), (0, u "pick"), (0, u "(III)I"), (0, .methodref 15 16), (0, .class_ 17), (0, .nameAndType 18 19), (0, u "com/example/kerb/kerb/sql/Lexer"), (0, u "isWhitespace"), (0, u "(I)Z"), (3, u "law"), (0, u "(III)Z")] 2

def k1m0 : Method := { name := "<init>", desc := "()V", sig := { parameters := [], returnType := none }, accessFlags := 2, code := none }
def k1c1 : Code := { maxStack := 3, maxLocals := 4, code := method_2_code, exceptionTable := #[], attributes := #[] }
def k1m1 : Method := { name := "pick", desc := "(III)I", sig := { parameters := [.int, .int, .int], returnType := some .int }, accessFlags := 10, code := some k1c1 }
def k1c2 : Code := { maxStack := 3, maxLocals := 5, code := code, exceptionTable := #[], attributes := #[] }
def k1m2 : Method := { name := "law", desc := "(III)Z", sig := { parameters := [.int, .int, .int], returnType := some .boolean }, accessFlags := 9, code := some k1c2 }
/-- com/example/kerb/kerb/sql/LexerIsWhitespacePinLaw -/
def k1 : Class := { plain "com/example/kerb/kerb/sql/LexerIsWhitespacePinLaw" (some 0) with
  accessFlags := 49
  interfaces := #[]
  cf := some (fileOf pool1 9 #[] #[{ accessFlags := 2, nameIndex := 5, descriptorIndex := 6, attributes := #[] }, { accessFlags := 10, nameIndex := 12, descriptorIndex := 13, attributes := #[] }, { accessFlags := 9, nameIndex := 23, descriptorIndex := 24, attributes := #[] }] 49 2 #[] #[])
  fields := #[]
  methods := #[k1m0, k1m1, k1m2]
  instanceTypes := #[]
  staticTypes := #[]
  resolved := Array.replicate 27 none
  statics := none }

def pool2 : Array CpInfo := pool [(2, .class_ 4), (1, u "java/lang/Object"), (6, .class_ 13), (1, u "com/example/kerb/kerb/sql/Lexer"), (0, u "tokens"), (0, u "Ljava/util/List;"), (2, u "text"), (0, u "Ljava/lang/String;"), (8, u "position"), (0, u "I"), (12, u "isWhitespace"), (0, u "(I)Z"), (56, u "TWO_CHARACTER_SYMBOLS"), (0, u "Ljava/util/Set;")] 73

def k2c0 : Code := { maxStack := 2, maxLocals := 1, code := prog_87_method_3_code, exceptionTable := #[], attributes := #[] }
def k2m0 : Method := { name := "isWhitespace", desc := "(I)Z", sig := { parameters := [.int], returnType := some .boolean }, accessFlags := 9, code := some k2c0 }
/-- com/example/kerb/kerb/sql/Lexer -/
def k2 : Class := { plain "com/example/kerb/kerb/sql/Lexer" (some 0) with
  accessFlags := 49
  interfaces := #[]
  cf := some (fileOf pool2 11 #[] #[{ accessFlags := 9, nameIndex := 42, descriptorIndex := 43, attributes := #[] }] 49 2 #[] #[{ accessFlags := 26, nameIndex := 100, descriptorIndex := 101, attributes := #[] }, { accessFlags := 18, nameIndex := 18, descriptorIndex := 19, attributes := #[] }, { accessFlags := 18, nameIndex := 14, descriptorIndex := 15, attributes := #[] }, { accessFlags := 2, nameIndex := 28, descriptorIndex := 29, attributes := #[] }])
  fields := #[{ name := "TWO_CHARACTER_SYMBOLS", type := (.object "java/util/Set"), accessFlags := 26, slot := 0, constantValue := 0 }, { name := "text", type := (.object "java/lang/String"), accessFlags := 18, slot := 0, constantValue := 0 }, { name := "tokens", type := (.object "java/util/List"), accessFlags := 18, slot := 1, constantValue := 0 }, { name := "position", type := .int, accessFlags := 2, slot := 2, constantValue := 0 }]
  methods := #[k2m0]
  instanceTypes := #[(.object "java/lang/String"), (.object "java/util/List"), .int]
  staticTypes := #[(.object "java/util/Set")]
  resolved := Array.replicate 175 none
  statics := none }

def pool3 : Array CpInfo := pool [(1, u "java/lang/Cloneable"), (0, .class_ 1), (0, u "java/lang/Object"), (0, .class_ 3)] 3

/-- java/lang/Cloneable -/
def k3 : Class := { plain "java/lang/Cloneable" (some 0) with
  accessFlags := 1537
  interfaces := #[]
  cf := some (fileOf pool3 2 #[] #[] 1537 4 #[] #[])
  fields := #[]
  methods := #[]
  instanceTypes := #[]
  staticTypes := #[]
  resolved := Array.replicate 8 none
  statics := none }

def pool4 : Array CpInfo := pool [(1, u "java/io/Serializable"), (0, .class_ 1), (0, u "java/lang/Object"), (0, .class_ 3)] 3

/-- java/io/Serializable -/
def k4 : Class := { plain "java/io/Serializable" (some 0) with
  accessFlags := 1537
  interfaces := #[]
  cf := some (fileOf pool4 2 #[] #[] 1537 4 #[] #[])
  fields := #[]
  methods := #[]
  instanceTypes := #[]
  staticTypes := #[]
  resolved := Array.replicate 8 none
  statics := none }

/-- the primitive byte -/
def k5 : Class := { plain "byte" none with kind := .primitive 'B', accessFlags := 0x411 }
/-- [B -/
def k6 : Class := { plain "[B" (some 0) with kind := .array 5 .byte, interfaces := #[3, 4], accessFlags := 1041 }

/-- the primitive int -/
def k7 : Class := { plain "int" none with kind := .primitive 'I', accessFlags := 0x411 }
/-- [I -/
def k8 : Class := { plain "[I" (some 0) with kind := .array 7 .int, interfaces := #[3, 4], accessFlags := 1041 }

def heap : Heap := #[]
def classes : Array Class := #[k0, k1, k2, k3, k4, k5, k6, k7, k8]
def interned : List (Array UInt16 × Addr) := []
def slotsUsed : Nat := 0
def theMethod : MethodId := ⟨1, 2⟩
def args0 : Array Value := #[.int 32, .int 1, .int 0]
def aboutOver (below : List Frame) : State where
  vm := { classes := classes, interned := interned.toArray }
  heap := heap
  slotsUsed := slotsUsed
  threads := #[{ frames := .invoking theMethod args0 :: below }]
def below0 : List Frame := [.native { method := ⟨0, 0⟩, args := #[] }]
def about1 : State := aboutOver below0
def p0 : Program := .bare "" "" ""
def e0 : Env := launch0.env 0 0 0
theorem w_frames : about1.frames = Frame.invoking theMethod args0 :: below0 := rfl
set_option maxRecDepth 65536 in
theorem w_args : argsFit about1.vm theMethod args0 = true := by decide +kernel
set_option maxRecDepth 65536 in
theorem w_heap : heapFits about1 = true := by decide +kernel
set_option maxRecDepth 65536 in
theorem w_runnable : about1.curStatus? = some .runnable := by decide +kernel
set_option maxRecDepth 65536 in
theorem w_alone : about1.alone = true := by decide +kernel
set_option maxRecDepth 65536 in
theorem w_named : about1.methodNamed? x = some theMethod := by decide +kernel
set_option maxRecDepth 65536 in
theorem w_hears : about1.hears theMethod below0 = true := by decide +kernel
set_option maxRecDepth 65536 in
theorem w_ripe : about1.ripe theMethod args0 below0 = true := by decide +kernel
theorem w_running : about1.status = .running := rfl
set_option maxRecDepth 65536 in
theorem w_room : about1.hasRoom e0.platform room_1 = true :=
  launch0.hasRoom_least _ room_1 (by decide +kernel) (by decide +kernel) (by decide +kernel) (by decide +kernel) (by decide +kernel) (by decide +kernel)
theorem allAtoms_all (ts : List Jvm.Cond) (a : Array Jvm.Value) (st : Jvm.State) : (allAtoms ts).before a st = ts.all (fun c => c.before a st) := by
  induction ts with
  | nil => rfl
  | cons c t ih =>
    show (Jvm.Cond.and c (allAtoms t)).before a st = _
    rw [Jvm.Cond.before_and, ih, List.all_cons]
def words1 : List Jvm.Cond := Jvm.Cond.code x code maxLocals ret :: tables_1
/-- a 'code' word, met by the world's own term for the bytes: nothing is compared byte by byte -/
theorem code_word {y : MethodName} {bytes : ByteArray} {mx : Nat} {rt : Option FieldType} {a : Array Value} {s : State} {m : MethodId} {meth : Method} {c : Code} (h1 : s.methodNamed? y = some m) (h2 : s.vm.method? m = some meth) (h3 : meth.code = some c) (h4 : c.code = bytes)
    (h5 : (c.maxLocals == mx && c.exceptionTable.isEmpty && decide (c.maxStack ≤ mostOperands) && decide (meth.sig.returnType = rt) && !meth.locks && decide (parseMethodDescriptor y.desc = some meth.sig)) = true) : (Jvm.Cond.code y bytes mx rt).before a s = true := by
  simp only [Bool.and_eq_true, beq_iff_eq, Bool.not_eq_true', decide_eq_true_eq] at h5
  obtain ⟨⟨⟨⟨⟨g1, g2⟩, g3⟩, g4⟩, g5⟩, g6⟩ := h5
  simp [Cond.before, Cond.holds, Cond.value, h1, h2, h3, h4, g1, g2, g3, g4, g5, g6]
def isCode : Jvm.Cond → Bool
  | .code _ _ _ _ => true
  | _ => false
theorem all_split {L : List Jvm.Cond} {P : Jvm.Cond → Bool} (h1 : L.all (fun c => isCode c || P c) = true) (h2 : ∀ c ∈ L.filter isCode, P c = true) : L.all P = true := by
  refine List.all_eq_true.mpr fun c hc => ?_
  have h := List.all_eq_true.mp h1 c hc
  rcases Bool.eq_false_or_eq_true (isCode c) with hi | hi
  · exact h2 c (List.mem_filter.mpr ⟨hc, hi⟩)
  · simpa [hi] using h
set_option maxRecDepth 65536 in
theorem w_c0 : (Jvm.Cond.code x code maxLocals ret).before args0 about1 = true := code_word (m := ⟨1, 2⟩) (meth := k1m2) (c := k1c2) (by decide +kernel) rfl rfl rfl (by decide +kernel)
set_option maxRecDepth 65536 in
theorem w_c1 : (Jvm.Cond.code ({ cls := "com/example/kerb/kerb/sql/LexerIsWhitespacePinLaw", name := "pick", desc := "(III)I" } : Jvm.MethodName) method_2_code (4 : Nat) (Option.some Jvm.ClassFile.FieldType.int)).before args0 about1 = true := code_word (m := ⟨1, 1⟩) (meth := k1m1) (c := k1c1) (by decide +kernel) rfl rfl rfl (by decide +kernel)
set_option maxRecDepth 65536 in
theorem w_c2 : (Jvm.Cond.code ({ cls := "com/example/kerb/kerb/sql/Lexer", name := "isWhitespace", desc := "(I)Z" } : Jvm.MethodName) prog_87_method_3_code (1 : Nat) (Option.some Jvm.ClassFile.FieldType.boolean)).before args0 about1 = true := code_word (m := ⟨2, 0⟩) (meth := k2m0) (c := k2c0) (by decide +kernel) rfl rfl rfl (by decide +kernel)
def codes1 : List Jvm.Cond := [Jvm.Cond.code x code maxLocals ret, Jvm.Cond.code ({ cls := "com/example/kerb/kerb/sql/LexerIsWhitespacePinLaw", name := "pick", desc := "(III)I" } : Jvm.MethodName) method_2_code (4 : Nat) (Option.some Jvm.ClassFile.FieldType.int), Jvm.Cond.code ({ cls := "com/example/kerb/kerb/sql/Lexer", name := "isWhitespace", desc := "(I)Z" } : Jvm.MethodName) prog_87_method_3_code (1 : Nat) (Option.some Jvm.ClassFile.FieldType.boolean)]
set_option maxRecDepth 65536 in
theorem codes_eq : words1.filter isCode = codes1 := rfl
theorem w_codes : ∀ c ∈ words1.filter isCode, c.before args0 about1 = true := by
  rw [codes_eq]
  intro c hc
  simp only [codes1, List.mem_cons, List.not_mem_nil, or_false] at hc
  rcases hc with rfl | rfl | rfl
  · exact w_c0
  · exact w_c1
  · exact w_c2
set_option maxRecDepth 65536 in
theorem w_t1 : words1.all (fun c => isCode c || c.before args0 about1) = true := by decide +kernel
theorem w_tables : (allAtoms (Jvm.Cond.code x code maxLocals ret :: tables_1)).before args0 about1 = true := by
  rw [allAtoms_all]
  show words1.all (fun c => c.before args0 about1) = true
  refine all_split ?_ w_codes
  rw [w_t1]
set_option maxRecDepth 65536 in
theorem w_case : (Jvm.Cond.and given_1 narrow_1).before args0 about1 = true := by decide +kernel
theorem w_applies : (headSpec (Jvm.Cond.code x code maxLocals ret :: tables_1) room_1).applies x e0.platform about1 = true :=
  (Spec.applies_iff w_frames).mpr ⟨w_running, w_runnable, w_alone, w_named, w_hears, w_ripe, w_room, w_tables⟩
theorem atStart : AtStart classFile x code maxLocals ret World_1 tables_1 room_1 Calls_1 rest_1 Pre_1 launch0 p0 e0 about1 theMethod args0 below0 :=
  ⟨lists_1, trivial, launch0.admits_env _ _ _, launch0.least_env, fairChoices_fair.cas, fairChoices_fair.clock, w_frames, w_args, w_heap, w_applies, trivial, trivial, w_case⟩
end start1
theorem witness_1 : WitnessClaimed_1 := ⟨start1.p0, start1.e0, start1.about1, start1.theMethod, start1.args0, start1.below0, start1.atStart⟩
end Jvm.Pilot.@@N@@
