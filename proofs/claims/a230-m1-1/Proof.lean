import JvmDerived
import JvmDerived.Pilot.@@N@@Statement
import JvmDerived.Pilot.@@N@@Code
set_option linter.unusedVariables false
set_option linter.unusedSimpArgs false
namespace Jvm.RoadKit
open Sem ClassFile Op Lib Jvm.Stand Jvm.Free Jvm.LawKit
section New
variable {p : Program} {l : Launch} {e : Env} {R : Room} {s : State} {m : MethodId} {args : Array Value} {below : List Frame} {meth : Method} {c : Code} {T : State} {locs : List Loc} {cells slots : Nat}
theorem retI (X : Stand p l e R s m args below meth c T locs cells slots) (hx : p.tables.exec = Jvm.exec) {pc : Nat} {Ls : Array Slot} {z : Int32} {rest : List Value} (hret : meth.sig.returnType = some .int) (hd : decode c.code pc = .ok (.ireturn, 1)) {fs : List Frame}
    (hl : ∀ (f : JFrame) (acts : List Action), f.method = m → f.locked = none → f.entered = [] → (doReturn e (T.setTop f) acts (some (.int z))).1 = T.setFrames fs) : Steps p.tables e below (T.setTop (mkF m pc Ls (.int z :: rest))) (T.setFrames fs) := by
  have hm' : T.vm.method? m = some meth := X.method'
  have hn : narrow .int (.int z) = .int z := rfl
  show Steps p.tables e below (T.setTop { method := m, pc := pc, locals := Ls, stack := _ :: rest, locked := none }) _
  jvm_step X.here [X.here.top, hx, hd, hm', hret, hn]
  first | (intro acts; rw [hl _ acts rfl rfl rfl]) | rw [hl _ _ rfl rfl rfl]
  exact Steps.refl _
end New
end Jvm.RoadKit
namespace Jvm.Pilot.@@N@@
open Jvm Jvm.ClassFile Sem Op Lib Jvm.Free Jvm.Stand Jvm.LawKit Jvm.RoadKit Bundle Jvm.Pilot.@@N@@.Jvm.D
theorem own_pn0 : plainName "java/lang/Record" = true := by first | (simp [plainName, overriddenIn]; done) | decide +kernel
theorem own_pd4 : parseMethodDescriptor "()V" = some ⟨[], none⟩ := by decide +kernel
theorem own_pn5 : plainName "com/example/fetch_plan/fetchplan/Page" = true := by first | (simp [plainName, overriddenIn]; done) | decide +kernel
theorem own_pd26 : parseMethodDescriptor "(II)V" = some ⟨[.int, .int], none⟩ := by decide +kernel
theorem own_pd27 : parseMethodDescriptor "()Z" = some ⟨[], some .boolean⟩ := by decide +kernel
theorem own_pn28 : plainName "com/example/fetch_plan/fetchplan/PageKeepsAllPinLaw" = true := by first | (simp [plainName, overriddenIn]; done) | decide +kernel
-- body 2
theorem own_d2_0 : decode jdk_30_method_1_code 0 = .ok (.aload_n 0, 1) := by decide +kernel
theorem own_d2_1 : decode jdk_30_method_1_code 1 = .ok (.invokespecial 1, 3) := by decide +kernel
theorem own_d2_4 : decode jdk_30_method_1_code 4 = .ok (.return_, 1) := by decide +kernel
theorem own_ef2 (m : MethodId) (x0 : Addr) : entryFrame m #[(.ref x0)] 1 = mkF m 0 #[.val (.ref x0)] [] := by first | (simp [entryFrame, mkF, argsToLocals, Value.category]; done) | rfl
def own_Q2 (Z : State) (a1 : Addr) (h0 : Heap) (n0 : Nat) (v : Option Value) (h : Heap) (L : List Loc) : Prop := v = none ∧ Fr n0 L ∧ h = h0
set_option maxRecDepth 65536 in
set_option maxHeartbeats 40000000 in
theorem own_rm2 (l : Launch) (Z : State) (a0 : Array Value) (hw : ∀ d ∈ tables_1, d.before a0 Z = true) (ws : List Jvm.Cond) (a1 : Addr) (h0 : Heap) (n0 : Nat) (Z0 : n0 ≤ h0.size) :
    MetFree l (⟨"java/lang/Record", "<init>", "()V"⟩ : MethodName) (head1 (Jvm.Cond.code (⟨"java/lang/Record", "<init>", "()V"⟩ : MethodName) jdk_30_method_1_code 1 none :: ws) ({ frames := 1, cells := 0, slots := 0, locals := 12 } : Room)) (fun a U => a = #[(.ref a1)] ∧ Z.Warmed39 U.vm ∧ U.heap = h0) (fun _ _ _ _ _ => True) (fun _ U o U' => ∃ v L, o = .returned v ∧ own_Q2 Z a1 h0 n0 v U'.heap L ∧ FrameEnd U o U' L ({ frames := 1, cells := 0, slots := 0, locals := 12 } : Room).cells ({ frames := 1, cells := 0, slots := 0, locals := 12 } : Room).slots) := by
  refine MetFree.of_bodySF (plainFor_of_name own_pn0) hisR ?_
  intro p e s m args below meth c s₁ Bd hml0 hP hK
  obtain ⟨rfl, hZ, hh⟩ := hP
  have hx := Bd.exec
  have hby := Bd.bytes
  have hml : c.maxLocals = 1 := hml0
  have hown : s.vm.findClass "java/lang/Record" = some m.cls := findClass_of_methodNamed Bd.named
  have hnm := (name_of_methodNamed Bd.named Bd.method).1
  have X0 : Stand p l e ({ frames := 1, cells := 0, slots := 0, locals := 12 } : Room) s m #[(.ref a1)] below meth c s₁ [] 0 0 := Stand.of_body Bd
  have e0 : s₁.heap = h0 := by rw [← hh, Bd.state]; rfl
  have N0 := Fr.nil n0
  have pre0 : ∀ t, Steps p.tables e below (s₁.setTop (mkF m 0 #[.val (.ref a1)] [])) t → Steps p.tables e below (s₁.setTop (entryFrame m #[(.ref a1)] 1)) t := fun t k => castTop (own_ef2 m a1) k
  obtain ⟨T1, X1, e1, st1⟩ := initO X0 hx hZ hown (hw _ (List.mem_of_getElem? (i := 12) rfl)) (hw _ (List.mem_of_getElem? (i := 13) rfl)) (hw _ (List.mem_of_getElem? (i := 14) rfl)) e0 (g := (mkF m 1 #[.val (.ref a1)] [(.ref a1)])) rfl (by rw [hml]; rfl) rfl (hb hby own_d2_1) (by decide) (W := 0) (by show 2 * 0 + _ ≤ _; exact Nat.le_of_eq rfl) (by decide)
  obtain ⟨fs, hr, hrun, hended, hW, hsame⟩ := X1.leave (v := none) (fun _ => rfl)
  refine ⟨_, _, pre0 _ ?_, hrun, hended, _, _, rfl, ?_, ⟨_, rfl⟩, hW, hsame.mono (by decide) (by decide)⟩
  · show Steps p.tables e below (s₁.setTop (mkF m 0 #[.val (.ref a1)] [])) _
    refine XS.aloadN X0.here hx rfl (hb hby own_d2_0) rfl rfl ?_
    show Steps p.tables e below (s₁.setTop (mkF m 1 #[.val (.ref a1)] [(.ref a1)])) _
    refine st1 _ ?_
    show Steps p.tables e below (T1.setTop (mkF m 4 #[.val (.ref a1)] [])) _
    exact X1.returnOut hx Bd.returns (hb hby own_d2_4) hr
  · show own_Q2 Z a1 h0 n0 _ T1.heap _
    rw [e1]
    exact ⟨rfl, N0, rfl⟩
-- body 1
theorem own_d1_0 : decode prog_6_method_1_code 0 = .ok (.aload_n 0, 1) := by decide +kernel
theorem own_d1_1 : decode prog_6_method_1_code 1 = .ok (.invokespecial 3, 3) := by decide +kernel
theorem own_d1_4 : decode prog_6_method_1_code 4 = .ok (.aload_n 0, 1) := by decide +kernel
theorem own_d1_5 : decode prog_6_method_1_code 5 = .ok (.iload_n 1, 1) := by decide +kernel
theorem own_d1_6 : decode prog_6_method_1_code 6 = .ok (.putfield 9, 3) := by decide +kernel
theorem own_d1_9 : decode prog_6_method_1_code 9 = .ok (.aload_n 0, 1) := by decide +kernel
theorem own_d1_10 : decode prog_6_method_1_code 10 = .ok (.iload_n 2, 1) := by decide +kernel
theorem own_d1_11 : decode prog_6_method_1_code 11 = .ok (.putfield 15, 3) := by decide +kernel
theorem own_d1_14 : decode prog_6_method_1_code 14 = .ok (.return_, 1) := by decide +kernel
theorem own_ef1 (m : MethodId) (x0 : Addr) (x1 : Int32) (x2 : Int32) : entryFrame m #[(.ref x0), (.int x1), (.int x2)] 3 = mkF m 0 #[.val (.ref x0), .val (.int x1), .val (.int x2)] [] := by first | (simp [entryFrame, mkF, argsToLocals, Value.category]; done) | rfl
def own_Q1 (Z : State) (a1 : Addr) (p2 : Int32) (p3 : Int32) (w_first_a1 : Int32) (w_max_a1 : Int32) (h0 : Heap) (n0 : Nat) (v : Option Value) (h : Heap) (L : List Loc) : Prop := v = none ∧ Fr n0 L ∧ Keep h0 h [a1] ∧ Exa Z h a1 "com/example/fetch_plan/fetchplan/Page" ∧ Fld Z h a1 "com/example/fetch_plan/fetchplan/Page" "first" "I" (.int p2) ∧ Fld Z h a1 "com/example/fetch_plan/fetchplan/Page" "max" "I" (.int p3)
set_option maxRecDepth 65536 in
set_option maxHeartbeats 40000000 in
theorem own_rm1 (l : Launch) (Z : State) (a0 : Array Value) (hw : ∀ d ∈ tables_1, d.before a0 Z = true) (ws : List Jvm.Cond) (a1 : Addr) (p2 : Int32) (p3 : Int32) (w_first_a1 : Int32) (w_max_a1 : Int32) (h0 : Heap) (n0 : Nat) (Z0 : n0 ≤ h0.size) (E_a1 : Exa Z h0 a1 "com/example/fetch_plan/fetchplan/Page") (F_first_a1 : Fld Z h0 a1 "com/example/fetch_plan/fetchplan/Page" "first" "I" (.int w_first_a1)) (g_a1 : n0 ≤ a1) (F_max_a1 : Fld Z h0 a1 "com/example/fetch_plan/fetchplan/Page" "max" "I" (.int w_max_a1)) :
    MetFree l (⟨"com/example/fetch_plan/fetchplan/Page", "<init>", "(II)V"⟩ : MethodName) (head1 (Jvm.Cond.code (⟨"com/example/fetch_plan/fetchplan/Page", "<init>", "(II)V"⟩ : MethodName) prog_6_method_1_code 3 none :: ws) ({ frames := 2, cells := 0, slots := 0, locals := 24 } : Room)) (fun a U => a = #[(.ref a1), (.int p2), (.int p3)] ∧ Z.Warmed39 U.vm ∧ U.heap = h0) (fun _ _ _ _ _ => True) (fun _ U o U' => ∃ v L, o = .returned v ∧ own_Q1 Z a1 p2 p3 w_first_a1 w_max_a1 h0 n0 v U'.heap L ∧ FrameEnd U o U' L ({ frames := 2, cells := 0, slots := 0, locals := 24 } : Room).cells ({ frames := 2, cells := 0, slots := 0, locals := 24 } : Room).slots) := by
  refine MetFree.of_bodySF (plainFor_of_name own_pn5) hisR ?_
  intro p e s m args below meth c s₁ Bd hml0 hP hK
  obtain ⟨rfl, hZ, hh⟩ := hP
  have hx := Bd.exec
  have hby := Bd.bytes
  have hml : c.maxLocals = 3 := hml0
  have hown : s.vm.findClass "com/example/fetch_plan/fetchplan/Page" = some m.cls := findClass_of_methodNamed Bd.named
  have hnm := (name_of_methodNamed Bd.named Bd.method).1
  have X0 : Stand p l e ({ frames := 2, cells := 0, slots := 0, locals := 24 } : Room) s m #[(.ref a1), (.int p2), (.int p3)] below meth c s₁ [] 0 0 := Stand.of_body Bd
  have e0 : s₁.heap = h0 := by rw [← hh, Bd.state]; rfl
  have N0 := Fr.nil n0
  have pre0 : ∀ t, Steps p.tables e below (s₁.setTop (mkF m 0 #[.val (.ref a1), .val (.int p2), .val (.int p3)] [])) t → Steps p.tables e below (s₁.setTop (entryFrame m #[(.ref a1), (.int p2), (.int p3)] 3)) t := fun t k => castTop (own_ef1 m a1 p2 p3) k
  obtain ⟨v1, _, ⟨T1, L1, k1, n1⟩, -, X1, ⟨Lc1, hQ1, l1, y1, z1⟩, st1⟩ := X0.specialBack hx (y := (⟨"java/lang/Record", "<init>", "()V"⟩ : MethodName)) rfl hown (mvT hZ (hw _ (List.mem_of_getElem? (i := 7) rfl))) (mvT hZ (hw _ (List.mem_of_getElem? (i := 8) rfl))) (mvT hZ (hw _ (List.mem_of_getElem? (i := 11) rfl))) (by decide) (backOf (W := 0) (own_rm2 l Z a0 hw [] a1 h0 n0 Z0) hZ (hw _ (List.mem_of_getElem? (i := 11) rfl)) (hw _ (List.mem_of_getElem? (i := 10) rfl)) (by decide) (by decide)) (g := (mkF m 1 #[.val (.ref a1), .val (.int p2), .val (.int p3)] [(.ref a1)])) rfl (by rw [hml]; rfl) (Steps.refl _) (a := a1) (argsL := []) (rest := []) (lenOf own_pd4 rfl) rfl (by show 2 * 0 + _ ≤ _; exact Nat.le_of_eq rfl) (hb hby own_d1_1) (fun _ _ => ⟨rfl, e0, (by decide : 0 + 0 ≤ _), (by decide : 0 + 0 ≤ _)⟩)
  dsimp only [Pt.U, Pt.locs, Pt.cells, Pt.slots] at X1 l1 y1 z1 st1 hQ1
  subst l1 y1 z1
  obtain ⟨rfl, N1q, e1⟩ := hQ1
  have N2 := Fr.app N0 N1q
  obtain ⟨T3, h3, X3, e3, W3, st3⟩ := putF X1 hx hZ hown (host := "") (Or.inl (hw _ (List.mem_of_getElem? (i := 15) rfl))) Via.refl e1 F_first_a1 E_a1 (Or.inr ⟨(hw _ (List.mem_of_getElem? (i := 16) rfl)), rfl, hnm⟩) (hw _ (List.mem_of_getElem? (i := 2) rfl)) (ty := .int) (by decide) rfl rfl (g := (mkF m 6 #[.val (.ref a1), .val (.int p2), .val (.int p3)] [(.int p2), (.ref a1)])) rfl rfl (hb hby own_d1_6)
  have N4 := Fr.snoc X3 N2 g_a1
  have Z5 := Nat.le_trans Z0 (Keep.of_wr W3).1
  have K6 : Keep h0 h3 [a1] := (Keep.refl h0 _).wr W3 (Or.inl (List.mem_of_getElem? (i := 0) rfl))
  have f7 := E_a1.wr W3
  have f8 := F_first_a1.same W3
  have f9 := F_max_a1.other W3 (Or.inr (slot_ne (Or.inr (hw _ (List.mem_of_getElem? (i := 18) rfl))) (Or.inr (hw _ (List.mem_of_getElem? (i := 16) rfl))) (by decide) (t := .int) (t' := .int) (by decide) (by decide)))
  obtain ⟨T10, h10, X10, e10, W10, st10⟩ := putF X3 hx hZ hown (host := "") (Or.inl (hw _ (List.mem_of_getElem? (i := 17) rfl))) Via.refl e3 f9 f7 (Or.inr ⟨(hw _ (List.mem_of_getElem? (i := 18) rfl)), rfl, hnm⟩) (hw _ (List.mem_of_getElem? (i := 2) rfl)) (ty := .int) (by decide) rfl rfl (g := (mkF m 11 #[.val (.ref a1), .val (.int p2), .val (.int p3)] [(.int p3), (.ref a1)])) rfl rfl (hb hby own_d1_11)
  have N11 := Fr.snoc X10 N4 g_a1
  have Z12 := Nat.le_trans Z5 (Keep.of_wr W10).1
  have K13 : Keep h0 h10 [a1] := K6.wr W10 (Or.inl (List.mem_of_getElem? (i := 0) rfl))
  have f14 := f7.wr W10
  have f15 := f8.other W10 (Or.inr (slot_ne (Or.inr (hw _ (List.mem_of_getElem? (i := 16) rfl))) (Or.inr (hw _ (List.mem_of_getElem? (i := 18) rfl))) (by decide) (t := .int) (t' := .int) (by decide) (by decide)))
  have f16 := f9.same W10
  obtain ⟨fs, hr, hrun, hended, hW, hsame⟩ := X10.leave (v := none) (fun _ => rfl)
  refine ⟨_, _, pre0 _ ?_, hrun, hended, _, _, rfl, ?_, ⟨_, rfl⟩, hW, hsame.mono (by decide) (by decide)⟩
  · show Steps p.tables e below (s₁.setTop (mkF m 0 #[.val (.ref a1), .val (.int p2), .val (.int p3)] [])) _
    refine XS.aloadN X0.here hx rfl (hb hby own_d1_0) rfl rfl ?_
    show Steps p.tables e below (s₁.setTop (mkF m 1 #[.val (.ref a1), .val (.int p2), .val (.int p3)] [(.ref a1)])) _
    refine st1.trans ?_
    show Steps p.tables e below (T1.setTop (mkF m 4 #[.val (.ref a1), .val (.int p2), .val (.int p3)] [])) _
    refine XS.aloadN X1.here hx rfl (hb hby own_d1_4) rfl rfl ?_
    show Steps p.tables e below (T1.setTop (mkF m 5 #[.val (.ref a1), .val (.int p2), .val (.int p3)] [(.ref a1)])) _
    refine XS.iloadN X1.here hx rfl (hb hby own_d1_5) rfl ?_
    show Steps p.tables e below (T1.setTop (mkF m 6 #[.val (.ref a1), .val (.int p2), .val (.int p3)] [(.int p2), (.ref a1)])) _
    refine st3 _ ?_
    show Steps p.tables e below (T3.setTop (mkF m 9 #[.val (.ref a1), .val (.int p2), .val (.int p3)] [])) _
    refine XS.aloadN X3.here hx rfl (hb hby own_d1_9) rfl rfl ?_
    show Steps p.tables e below (T3.setTop (mkF m 10 #[.val (.ref a1), .val (.int p2), .val (.int p3)] [(.ref a1)])) _
    refine XS.iloadN X3.here hx rfl (hb hby own_d1_10) rfl ?_
    show Steps p.tables e below (T3.setTop (mkF m 11 #[.val (.ref a1), .val (.int p2), .val (.int p3)] [(.int p3), (.ref a1)])) _
    refine st10 _ ?_
    show Steps p.tables e below (T10.setTop (mkF m 14 #[.val (.ref a1), .val (.int p2), .val (.int p3)] [])) _
    exact X10.returnOut hx Bd.returns (hb hby own_d1_14) hr
  · show own_Q1 Z a1 p2 p3 w_first_a1 w_max_a1 h0 n0 _ T10.heap _
    rw [e10]
    exact ⟨rfl, N11, K13, f14, f15, f16⟩
-- body 4
theorem own_d4_0 : decode prog_6_method_2_code 0 = .ok (.aload_n 0, 1) := by decide +kernel
theorem own_d4_1 : decode prog_6_method_2_code 1 = .ok (.getfield 9, 3) := by decide +kernel
theorem own_d4_4 : decode prog_6_method_2_code 4 = .ok (.ifCond .ne 16, 3) := by decide +kernel
theorem own_d4_7 : decode prog_6_method_2_code 7 = .ok (.aload_n 0, 1) := by decide +kernel
theorem own_d4_8 : decode prog_6_method_2_code 8 = .ok (.getfield 15, 3) := by decide +kernel
theorem own_d4_11 : decode prog_6_method_2_code 11 = .ok (.ldc 18, 2) := by decide +kernel
theorem own_d4_13 : decode prog_6_method_2_code 13 = .ok (.if_icmp .ne 7, 3) := by decide +kernel
theorem own_d4_16 : decode prog_6_method_2_code 16 = .ok (.iconst 1, 1) := by decide +kernel
theorem own_d4_17 : decode prog_6_method_2_code 17 = .ok (.goto 4, 3) := by decide +kernel
theorem own_d4_20 : decode prog_6_method_2_code 20 = .ok (.iconst 0, 1) := by decide +kernel
theorem own_d4_21 : decode prog_6_method_2_code 21 = .ok (.ireturn, 1) := by decide +kernel
theorem own_ef4 (m : MethodId) (x0 : Addr) : entryFrame m #[(.ref x0)] 1 = mkF m 0 #[.val (.ref x0)] [] := by first | (simp [entryFrame, mkF, argsToLocals, Value.category]; done) | rfl
def own_f4 (w_first_a1 : Int32) (w_max_a1 : Int32) : Int32 := if w_first_a1 = (0 : Int32) then (if w_max_a1 = (2147483647 : Int32) then (1 : Int32)
      else (0 : Int32))
    else (0 : Int32)
def own_Q4 (Z : State) (a1 : Addr) (w_first_a1 : Int32) (w_max_a1 : Int32) (h0 : Heap) (n0 : Nat) (v : Option Value) (h : Heap) (L : List Loc) : Prop := v = some (.int (own_f4 w_first_a1 w_max_a1)) ∧ Fr n0 L ∧ h = h0
set_option maxRecDepth 65536 in
set_option maxHeartbeats 40000000 in
theorem own_rm4 (l : Launch) (Z : State) (a0 : Array Value) (hw : ∀ d ∈ tables_1, d.before a0 Z = true) (ws : List Jvm.Cond) (a1 : Addr) (w_first_a1 : Int32) (w_max_a1 : Int32) (h0 : Heap) (n0 : Nat) (Z0 : n0 ≤ h0.size) (F_first_a1 : Fld Z h0 a1 "com/example/fetch_plan/fetchplan/Page" "first" "I" (.int w_first_a1)) (F_max_a1 : Fld Z h0 a1 "com/example/fetch_plan/fetchplan/Page" "max" "I" (.int w_max_a1)) :
    MetFree l (⟨"com/example/fetch_plan/fetchplan/Page", "keepsAll", "()Z"⟩ : MethodName) (head1 (Jvm.Cond.code (⟨"com/example/fetch_plan/fetchplan/Page", "keepsAll", "()Z"⟩ : MethodName) prog_6_method_2_code 1 (some .boolean) :: ws) ({ frames := 0, cells := 0, slots := 0, locals := 0 } : Room)) (fun a U => a = #[(.ref a1)] ∧ Z.Warmed39 U.vm ∧ U.heap = h0) (fun _ _ _ _ _ => True) (fun _ U o U' => ∃ v L, o = .returned v ∧ own_Q4 Z a1 w_first_a1 w_max_a1 h0 n0 v U'.heap L ∧ FrameEnd U o U' L ({ frames := 0, cells := 0, slots := 0, locals := 0 } : Room).cells ({ frames := 0, cells := 0, slots := 0, locals := 0 } : Room).slots) := by
  refine MetFree.of_bodySF (plainFor_of_name own_pn5) hisR ?_
  intro p e s m args below meth c s₁ Bd hml0 hP hK
  obtain ⟨rfl, hZ, hh⟩ := hP
  have hx := Bd.exec
  have hby := Bd.bytes
  have hml : c.maxLocals = 1 := hml0
  have hown : s.vm.findClass "com/example/fetch_plan/fetchplan/Page" = some m.cls := findClass_of_methodNamed Bd.named
  have hnm := (name_of_methodNamed Bd.named Bd.method).1
  have X0 : Stand p l e ({ frames := 0, cells := 0, slots := 0, locals := 0 } : Room) s m #[(.ref a1)] below meth c s₁ [] 0 0 := Stand.of_body Bd
  have e0 : s₁.heap = h0 := by rw [← hh, Bd.state]; rfl
  have N0 := Fr.nil n0
  have pre0 : ∀ t, Steps p.tables e below (s₁.setTop (mkF m 0 #[.val (.ref a1)] [])) t → Steps p.tables e below (s₁.setTop (entryFrame m #[(.ref a1)] 1)) t := fun t k => castTop (own_ef4 m a1) k
  obtain ⟨T1, X1, e1, st1⟩ := getF X0 hx hZ hown (host := "") (Or.inl (hw _ (List.mem_of_getElem? (i := 15) rfl))) Via.refl e0 F_first_a1 (g := (mkF m 1 #[.val (.ref a1)] [(.ref a1)])) rfl rfl (hb hby own_d4_1)
  have k2 : ∀ t, Steps p.tables e below (T1.setTop (mkF m 4 #[.val (.ref a1)] [(.int w_first_a1)])) t → Steps p.tables e below (s₁.setTop (entryFrame m #[(.ref a1)] 1)) t := by
    intro t kt
    refine pre0 t ?_
    show Steps p.tables e below (s₁.setTop (mkF m 0 #[.val (.ref a1)] [])) _
    refine XS.aloadN X0.here hx rfl (hb hby own_d4_0) rfl rfl ?_
    show Steps p.tables e below (s₁.setTop (mkF m 1 #[.val (.ref a1)] [(.ref a1)])) _
    refine st1 _ ?_
    exact kt
  by_cases hc1 : w_first_a1 = (0 : Int32)
  ·
    obtain ⟨T3, X3, e3, st3⟩ := getF X1 hx hZ hown (host := "") (Or.inl (hw _ (List.mem_of_getElem? (i := 17) rfl))) Via.refl e1 F_max_a1 (g := (mkF m 8 #[.val (.ref a1)] [(.ref a1)])) rfl rfl (hb hby own_d4_8)
    have k4 : ∀ t, Steps p.tables e below (T3.setTop (mkF m 13 #[.val (.ref a1)] [(.int (2147483647 : Int32)), (.int w_max_a1)])) t → Steps p.tables e below (s₁.setTop (entryFrame m #[(.ref a1)] 1)) t := by
      intro t kt
      refine k2 t ?_
      show Steps p.tables e below (T1.setTop (mkF m 4 #[.val (.ref a1)] [(.int w_first_a1)])) _
      refine XS.ifNo X1.here hx rfl (hb hby own_d4_4) rfl ((if0 _ _).trans (teq hc1).2) ?_
      show Steps p.tables e below (T1.setTop (mkF m 7 #[.val (.ref a1)] [])) _
      refine XS.aloadN X1.here hx rfl (hb hby own_d4_7) rfl rfl ?_
      show Steps p.tables e below (T1.setTop (mkF m 8 #[.val (.ref a1)] [(.ref a1)])) _
      refine st3 _ ?_
      show Steps p.tables e below (T3.setTop (mkF m 11 #[.val (.ref a1)] [(.int w_max_a1)])) _
      refine X3.ldcInt hx hown (mvT hZ (hw _ (List.mem_of_getElem? (i := 24) rfl))) (g := (mkF m 11 #[.val (.ref a1)] [(.int w_max_a1)])) rfl (hb hby own_d4_11) _ ?_
      exact kt
    by_cases hc2 : w_max_a1 = (2147483647 : Int32)
    ·
      obtain ⟨fs, hr, hrun, hended, hW, hsame⟩ := X3.leave (v := some (.int (1 : Int32))) (fun h => by rw [Bd.returns] at h; cases h)
      refine ⟨_, _, k4 _ ?_, hrun, hended, _, _, rfl, ?_, ⟨_, rfl⟩, hW, hsame.mono (by decide) (by decide)⟩
      · show Steps p.tables e below (T3.setTop (mkF m 13 #[.val (.ref a1)] [(.int (2147483647 : Int32)), (.int w_max_a1)])) _
        refine XS.icmpNo X3.here hx rfl (hb hby own_d4_13) rfl (teq hc2).2 ?_
        show Steps p.tables e below (T3.setTop (mkF m 16 #[.val (.ref a1)] [])) _
        refine XS.iconst X3.here hx rfl (hb hby own_d4_16) ?_
        show Steps p.tables e below (T3.setTop (mkF m 17 #[.val (.ref a1)] [(.int (1 : Int32))])) _
        refine XS.goto X3.here hx rfl (pc0 := 17) (pc' := 21) rfl (hb hby own_d4_17) (by decide) (by decide) ?_
        show Steps p.tables e below (T3.setTop (mkF m 21 #[.val (.ref a1)] [(.int (1 : Int32))])) _
        exact retN X3 hx (t := .boolean) Bd.returns (by simp) (hb hby own_d4_21) hr
      · show own_Q4 Z a1 w_first_a1 w_max_a1 h0 n0 _ T3.heap _
        rw [e3]
        exact ⟨(by rw [own_f4, if_pos hc1, if_pos hc2]), N0, rfl⟩
    ·
      obtain ⟨fs, hr, hrun, hended, hW, hsame⟩ := X3.leave (v := some (.int (0 : Int32))) (fun h => by rw [Bd.returns] at h; cases h)
      refine ⟨_, _, k4 _ ?_, hrun, hended, _, _, rfl, ?_, ⟨_, rfl⟩, hW, hsame.mono (by decide) (by decide)⟩
      · show Steps p.tables e below (T3.setTop (mkF m 13 #[.val (.ref a1)] [(.int (2147483647 : Int32)), (.int w_max_a1)])) _
        refine XS.icmpYes X3.here hx rfl (pc0 := 13) (pc' := 20) rfl (hb hby own_d4_13) rfl (feq hc2).2 (by decide) (by decide) ?_
        show Steps p.tables e below (T3.setTop (mkF m 20 #[.val (.ref a1)] [])) _
        refine XS.iconst X3.here hx rfl (hb hby own_d4_20) ?_
        show Steps p.tables e below (T3.setTop (mkF m 21 #[.val (.ref a1)] [(.int (0 : Int32))])) _
        exact retN X3 hx (t := .boolean) Bd.returns (by simp) (hb hby own_d4_21) hr
      · show own_Q4 Z a1 w_first_a1 w_max_a1 h0 n0 _ T3.heap _
        rw [e3]
        exact ⟨(by rw [own_f4, if_pos hc1, if_neg hc2]), N0, rfl⟩
  ·
    obtain ⟨fs, hr, hrun, hended, hW, hsame⟩ := X1.leave (v := some (.int (0 : Int32))) (fun h => by rw [Bd.returns] at h; cases h)
    refine ⟨_, _, k2 _ ?_, hrun, hended, _, _, rfl, ?_, ⟨_, rfl⟩, hW, hsame.mono (by decide) (by decide)⟩
    · show Steps p.tables e below (T1.setTop (mkF m 4 #[.val (.ref a1)] [(.int w_first_a1)])) _
      refine XS.ifYes X1.here hx rfl (pc0 := 4) (pc' := 20) rfl (hb hby own_d4_4) rfl ((if0 _ _).trans (feq hc1).2) (by decide) (by decide) ?_
      show Steps p.tables e below (T1.setTop (mkF m 20 #[.val (.ref a1)] [])) _
      refine XS.iconst X1.here hx rfl (hb hby own_d4_20) ?_
      show Steps p.tables e below (T1.setTop (mkF m 21 #[.val (.ref a1)] [(.int (0 : Int32))])) _
      exact retN X1 hx (t := .boolean) Bd.returns (by simp) (hb hby own_d4_21) hr
    · show own_Q4 Z a1 w_first_a1 w_max_a1 h0 n0 _ T1.heap _
      rw [e1]
      exact ⟨(by rw [own_f4, if_neg hc1]), N0, rfl⟩
-- body 0
theorem own_ef0 (m : MethodId) (x0 : Int32) (x1 : Int32) (x2 : Int32) : entryFrame m #[(.int x0), (.int x1), (.int x2)] maxLocals = mkF m 0 #[.val (.int x0), .val (.int x1), .val (.int x2), .unset, .unset, .unset, .unset] [] := by first | (simp [entryFrame, mkF, argsToLocals, Value.category, maxLocals]; done) | rfl
def own_f0 (p1 : Int32) (p2 : Int32) (p3 : Int32) : Int32 := if (p3 &&& (1 : Int32)) = (0 : Int32) then (if (p3 &&& (2 : Int32)) = (0 : Int32) then (if (p3 &&& (4 : Int32)) = (0 : Int32) then (if (p1 ||| (p2 ^^^ (2147483647 : Int32))) = (0 : Int32) then (if (own_f4 p1 p2) = (1 : Int32) then (1 : Int32)
            else (0 : Int32))
          else if (own_f4 p1 p2) = (0 : Int32) then (1 : Int32)
            else (0 : Int32))
        else if (p1 ||| (1 : Int32)) = (0 : Int32) then (if (own_f4 p1 (2147483646 : Int32)) = (1 : Int32) then (1 : Int32)
            else (0 : Int32))
          else if (own_f4 p1 (2147483646 : Int32)) = (0 : Int32) then (1 : Int32)
            else (0 : Int32))
      else if (p1 ||| (0 : Int32)) = (0 : Int32) then (if (own_f4 p1 (2147483647 : Int32)) = (1 : Int32) then (1 : Int32)
          else (0 : Int32))
        else if (own_f4 p1 (2147483647 : Int32)) = (0 : Int32) then (1 : Int32)
          else (0 : Int32))
    else if (p3 &&& (2 : Int32)) = (0 : Int32) then (if (p3 &&& (4 : Int32)) = (0 : Int32) then (if ((0 : Int32) ||| (p2 ^^^ (2147483647 : Int32))) = (0 : Int32) then (if (own_f4 (0 : Int32) p2) = (1 : Int32) then (1 : Int32)
            else (0 : Int32))
          else if (own_f4 (0 : Int32) p2) = (0 : Int32) then (1 : Int32)
            else (0 : Int32))
        else (1 : Int32))
      else (1 : Int32)
def own_Q0 (Z : State) (p1 : Int32) (p2 : Int32) (p3 : Int32) (h0 : Heap) (n0 : Nat) (v : Option Value) (h : Heap) (L : List Loc) : Prop := v = some (.int (own_f0 p1 p2 p3)) ∧ Fr n0 L
set_option maxRecDepth 65536 in
set_option maxHeartbeats 40000000 in
theorem own_rm0 (l : Launch) (Z : State) (a0 : Array Value) (hw : ∀ d ∈ tables_1, d.before a0 Z = true) (ws : List Jvm.Cond) (p1 : Int32) (p2 : Int32) (p3 : Int32) (h0 : Heap) (n0 : Nat) (Z0 : n0 ≤ h0.size) :
    MetFree l x (head1 (Jvm.Cond.code x code maxLocals ret :: ws) room_1) (fun a U => a = #[(.int p1), (.int p2), (.int p3)] ∧ Z.Warmed39 U.vm ∧ U.heap = h0) (fun _ _ _ _ _ => True) (fun _ U o U' => ∃ v L, o = .returned v ∧ own_Q0 Z p1 p2 p3 h0 n0 v U'.heap L ∧ FrameEnd U o U' L room_1.cells room_1.slots) := by
  refine MetFree.of_bodySF (plainFor_of_name own_pn28) hisR ?_
  intro p e s m args below meth c s₁ Bd hml0 hP hK
  obtain ⟨rfl, hZ, hh⟩ := hP
  have hx := Bd.exec
  have hby := Bd.bytes
  have hml : c.maxLocals = 7 := hml0
  have hown : s.vm.findClass "com/example/fetch_plan/fetchplan/PageKeepsAllPinLaw" = some m.cls := findClass_of_methodNamed Bd.named
  have hnm := (name_of_methodNamed Bd.named Bd.method).1
  have X0 : Stand p l e room_1 s m #[(.int p1), (.int p2), (.int p3)] below meth c s₁ [] 0 0 := Stand.of_body Bd
  have e0 : s₁.heap = h0 := by rw [← hh, Bd.state]; rfl
  have N0 := Fr.nil n0
  have pre0 : ∀ t, Steps p.tables e below (s₁.setTop (mkF m 0 #[.val (.int p1), .val (.int p2), .val (.int p3), .unset, .unset, .unset, .unset] [])) t → Steps p.tables e below (s₁.setTop (entryFrame m #[(.int p1), (.int p2), (.int p3)] maxLocals)) t := fun t k => castTop (own_ef0 m p1 p2 p3) k
  have k1 : ∀ t, Steps p.tables e below (s₁.setTop (mkF m 3 #[.val (.int p1), .val (.int p2), .val (.int p3), .unset, .unset, .unset, .unset] [(.int (p3 &&& (1 : Int32)))])) t → Steps p.tables e below (s₁.setTop (entryFrame m #[(.int p1), (.int p2), (.int p3)] maxLocals)) t := by
    intro t kt
    refine pre0 t ?_
    show Steps p.tables e below (s₁.setTop (mkF m 0 #[.val (.int p1), .val (.int p2), .val (.int p3), .unset, .unset, .unset, .unset] [])) _
    refine XS.iloadN X0.here hx rfl (hb hby at_0) rfl ?_
    show Steps p.tables e below (s₁.setTop (mkF m 1 #[.val (.int p1), .val (.int p2), .val (.int p3), .unset, .unset, .unset, .unset] [(.int p3)])) _
    refine XS.iconst X0.here hx rfl (hb hby at_1) ?_
    show Steps p.tables e below (s₁.setTop (mkF m 2 #[.val (.int p1), .val (.int p2), .val (.int p3), .unset, .unset, .unset, .unset] [(.int (1 : Int32)), (.int p3)])) _
    refine XS.iand X0.here hx rfl (hb hby at_2) rfl ?_
    exact kt
  by_cases hc1 : (p3 &&& (1 : Int32)) = (0 : Int32)
  ·
    have k2 : ∀ t, Steps p.tables e below (s₁.setTop (mkF m 15 #[.val (.int p1), .val (.int p2), .val (.int p3), .val (.int p1), .unset, .unset, .unset] [(.int (p3 &&& (2 : Int32)))])) t → Steps p.tables e below (s₁.setTop (entryFrame m #[(.int p1), (.int p2), (.int p3)] maxLocals)) t := by
      intro t kt
      refine k1 t ?_
      show Steps p.tables e below (s₁.setTop (mkF m 3 #[.val (.int p1), .val (.int p2), .val (.int p3), .unset, .unset, .unset, .unset] [(.int (p3 &&& (1 : Int32)))])) _
      refine XS.ifYes X0.here hx rfl (pc0 := 3) (pc' := 10) rfl (hb hby at_3) rfl ((if0 _ _).trans (teq hc1).1) (by decide) (by decide) ?_
      show Steps p.tables e below (s₁.setTop (mkF m 10 #[.val (.int p1), .val (.int p2), .val (.int p3), .unset, .unset, .unset, .unset] [])) _
      refine XS.iloadN X0.here hx rfl (hb hby at_10) rfl ?_
      show Steps p.tables e below (s₁.setTop (mkF m 11 #[.val (.int p1), .val (.int p2), .val (.int p3), .unset, .unset, .unset, .unset] [(.int p1)])) _
      refine XS.istoreN X0.here hx rfl (hb hby at_11) rfl (l' := #[.val (.int p1), .val (.int p2), .val (.int p3), .val (.int p1), .unset, .unset, .unset]) rfl ?_
      show Steps p.tables e below (s₁.setTop (mkF m 12 #[.val (.int p1), .val (.int p2), .val (.int p3), .val (.int p1), .unset, .unset, .unset] [])) _
      refine XS.iloadN X0.here hx rfl (hb hby at_12) rfl ?_
      show Steps p.tables e below (s₁.setTop (mkF m 13 #[.val (.int p1), .val (.int p2), .val (.int p3), .val (.int p1), .unset, .unset, .unset] [(.int p3)])) _
      refine XS.iconst X0.here hx rfl (hb hby at_13) ?_
      show Steps p.tables e below (s₁.setTop (mkF m 14 #[.val (.int p1), .val (.int p2), .val (.int p3), .val (.int p1), .unset, .unset, .unset] [(.int (2 : Int32)), (.int p3)])) _
      refine XS.iand X0.here hx rfl (hb hby at_14) rfl ?_
      exact kt
    by_cases hc2 : (p3 &&& (2 : Int32)) = (0 : Int32)
    ·
      have k3 : ∀ t, Steps p.tables e below (s₁.setTop (mkF m 28 #[.val (.int p1), .val (.int p2), .val (.int p3), .val (.int p1), .unset, .unset, .unset] [(.int (p3 &&& (4 : Int32)))])) t → Steps p.tables e below (s₁.setTop (entryFrame m #[(.int p1), (.int p2), (.int p3)] maxLocals)) t := by
        intro t kt
        refine k2 t ?_
        show Steps p.tables e below (s₁.setTop (mkF m 15 #[.val (.int p1), .val (.int p2), .val (.int p3), .val (.int p1), .unset, .unset, .unset] [(.int (p3 &&& (2 : Int32)))])) _
        refine XS.ifYes X0.here hx rfl (pc0 := 15) (pc' := 25) rfl (hb hby at_15) rfl ((if0 _ _).trans (teq hc2).1) (by decide) (by decide) ?_
        show Steps p.tables e below (s₁.setTop (mkF m 25 #[.val (.int p1), .val (.int p2), .val (.int p3), .val (.int p1), .unset, .unset, .unset] [])) _
        refine XS.iloadN X0.here hx rfl (hb hby at_25) rfl ?_
        show Steps p.tables e below (s₁.setTop (mkF m 26 #[.val (.int p1), .val (.int p2), .val (.int p3), .val (.int p1), .unset, .unset, .unset] [(.int p3)])) _
        refine XS.iconst X0.here hx rfl (hb hby at_26) ?_
        show Steps p.tables e below (s₁.setTop (mkF m 27 #[.val (.int p1), .val (.int p2), .val (.int p3), .val (.int p1), .unset, .unset, .unset] [(.int (4 : Int32)), (.int p3)])) _
        refine XS.iand X0.here hx rfl (hb hby at_27) rfl ?_
        exact kt
      by_cases hc3 : (p3 &&& (4 : Int32)) = (0 : Int32)
      ·
        obtain ⟨T4, h4, X4, e4, E4, A4, D4, -, st4⟩ := newO X0 hx hZ hown (hw _ (List.mem_of_getElem? (i := 1) rfl)) (hw _ (List.mem_of_getElem? (i := 2) rfl)) (hw _ (List.mem_of_getElem? (i := 3) rfl)) e0 (g := (mkF m 41 #[.val (.int p1), .val (.int p2), .val (.int p3), .val (.int p1), .val (.int p2), .unset, .unset] [])) rfl (hb hby at_41) (by decide) (by decide)
        obtain ⟨b4, g4⟩ : ∃ z, z = h0.size := ⟨_, rfl⟩
        rw [← g4] at A4 D4 st4
        have g_b4 : n0 ≤ b4 := Nat.le_trans Z0 (Nat.le_of_eq g4.symm)
        have Z5 := Nat.le_trans Z0 E4.1
        have F_first_b4 : Fld Z h4 b4 "com/example/fetch_plan/fetchplan/Page" "first" "I" (.int (0 : Int32)) := D4 (Or.inr (hw _ (List.mem_of_getElem? (i := 16) rfl))) (ty := .int) (by decide)
        have F_max_b4 : Fld Z h4 b4 "com/example/fetch_plan/fetchplan/Page" "max" "I" (.int (0 : Int32)) := D4 (Or.inr (hw _ (List.mem_of_getElem? (i := 18) rfl))) (ty := .int) (by decide)
        obtain ⟨v6, _, ⟨T6, L6, k6, n6⟩, -, X6, ⟨Lc6, hQ6, l6, y6, z6⟩, st6⟩ := X4.specialBack hx (y := (⟨"com/example/fetch_plan/fetchplan/Page", "<init>", "(II)V"⟩ : MethodName)) rfl hown (mvT hZ (hw _ (List.mem_of_getElem? (i := 4) rfl))) (mvT hZ (hw _ (List.mem_of_getElem? (i := 5) rfl))) (mvT hZ (hw _ (List.mem_of_getElem? (i := 6) rfl))) (by decide) (backOf (W := 1) (own_rm1 l Z a0 hw [] b4 p1 p2 (0 : Int32) (0 : Int32) h4 n0 Z5 A4 F_first_b4 g_b4 F_max_b4) hZ (hw _ (List.mem_of_getElem? (i := 6) rfl)) (hw _ (List.mem_of_getElem? (i := 3) rfl)) (by decide) (by decide)) (g := (mkF m 48 #[.val (.int p1), .val (.int p2), .val (.int p3), .val (.int p1), .val (.int p2), .unset, .unset] [(.int p2), (.int p1), (.ref b4), (.ref b4)])) rfl (by rw [hml]; rfl) (Steps.refl _) (a := b4) (argsL := [(.int p1), (.int p2)]) (rest := [(.ref b4)]) (lenOf own_pd26 rfl) rfl (by show 2 * 0 + _ ≤ _; exact Nat.le_of_eq rfl) (hb hby at_48) (fun _ _ => ⟨rfl, e4, (by decide : 1 + 0 ≤ _), (by decide : 2 + 0 ≤ _)⟩)
        dsimp only [Pt.U, Pt.locs, Pt.cells, Pt.slots] at X6 l6 y6 z6 st6 hQ6
        subst l6 y6 z6
        obtain ⟨rfl, N6q, K6, Q6_0, Q6_1, Q6_2⟩ := hQ6
        have f7 := A4.keep K6
        have Z10 := Nat.le_trans Z5 K6.1
        have N11 := Fr.app N0 N6q
        have k12 : ∀ t, Steps p.tables e below (T6.setTop (mkF m 60 #[.val (.int p1), .val (.int p2), .val (.int p3), .val (.int p1), .val (.int p2), .val (.ref b4), .unset] [(.int (p1 ||| (p2 ^^^ (2147483647 : Int32))))])) t → Steps p.tables e below (s₁.setTop (entryFrame m #[(.int p1), (.int p2), (.int p3)] maxLocals)) t := by
          intro t kt
          refine k3 t ?_
          show Steps p.tables e below (s₁.setTop (mkF m 28 #[.val (.int p1), .val (.int p2), .val (.int p3), .val (.int p1), .unset, .unset, .unset] [(.int (p3 &&& (4 : Int32)))])) _
          refine XS.ifYes X0.here hx rfl (pc0 := 28) (pc' := 38) rfl (hb hby at_28) rfl ((if0 _ _).trans (teq hc3).1) (by decide) (by decide) ?_
          show Steps p.tables e below (s₁.setTop (mkF m 38 #[.val (.int p1), .val (.int p2), .val (.int p3), .val (.int p1), .unset, .unset, .unset] [])) _
          refine XS.iloadN X0.here hx rfl (hb hby at_38) rfl ?_
          show Steps p.tables e below (s₁.setTop (mkF m 39 #[.val (.int p1), .val (.int p2), .val (.int p3), .val (.int p1), .unset, .unset, .unset] [(.int p2)])) _
          refine XS.istore X0.here hx rfl (hb hby at_39) rfl (l' := #[.val (.int p1), .val (.int p2), .val (.int p3), .val (.int p1), .val (.int p2), .unset, .unset]) rfl ?_
          show Steps p.tables e below (s₁.setTop (mkF m 41 #[.val (.int p1), .val (.int p2), .val (.int p3), .val (.int p1), .val (.int p2), .unset, .unset] [])) _
          refine st4 _ ?_
          show Steps p.tables e below (T4.setTop (mkF m 44 #[.val (.int p1), .val (.int p2), .val (.int p3), .val (.int p1), .val (.int p2), .unset, .unset] [(.ref b4)])) _
          refine XS.dup X4.here hx rfl (hb hby at_44) rfl rfl ?_
          show Steps p.tables e below (T4.setTop (mkF m 45 #[.val (.int p1), .val (.int p2), .val (.int p3), .val (.int p1), .val (.int p2), .unset, .unset] [(.ref b4), (.ref b4)])) _
          refine XS.iloadN X4.here hx rfl (hb hby at_45) rfl ?_
          show Steps p.tables e below (T4.setTop (mkF m 46 #[.val (.int p1), .val (.int p2), .val (.int p3), .val (.int p1), .val (.int p2), .unset, .unset] [(.int p1), (.ref b4), (.ref b4)])) _
          refine XS.iload X4.here hx rfl (hb hby at_46) rfl ?_
          show Steps p.tables e below (T4.setTop (mkF m 48 #[.val (.int p1), .val (.int p2), .val (.int p3), .val (.int p1), .val (.int p2), .unset, .unset] [(.int p2), (.int p1), (.ref b4), (.ref b4)])) _
          refine st6.trans ?_
          show Steps p.tables e below (T6.setTop (mkF m 51 #[.val (.int p1), .val (.int p2), .val (.int p3), .val (.int p1), .val (.int p2), .unset, .unset] [(.ref b4)])) _
          refine XS.astore X6.here hx rfl (hb hby at_51) rfl rfl (l' := #[.val (.int p1), .val (.int p2), .val (.int p3), .val (.int p1), .val (.int p2), .val (.ref b4), .unset]) rfl ?_
          show Steps p.tables e below (T6.setTop (mkF m 53 #[.val (.int p1), .val (.int p2), .val (.int p3), .val (.int p1), .val (.int p2), .val (.ref b4), .unset] [])) _
          refine XS.iloadN X6.here hx rfl (hb hby at_53) rfl ?_
          show Steps p.tables e below (T6.setTop (mkF m 54 #[.val (.int p1), .val (.int p2), .val (.int p3), .val (.int p1), .val (.int p2), .val (.ref b4), .unset] [(.int p1)])) _
          refine XS.iload X6.here hx rfl (hb hby at_54) rfl ?_
          show Steps p.tables e below (T6.setTop (mkF m 56 #[.val (.int p1), .val (.int p2), .val (.int p3), .val (.int p1), .val (.int p2), .val (.ref b4), .unset] [(.int p2), (.int p1)])) _
          refine X6.ldcInt hx hown (mvT hZ (hw _ (List.mem_of_getElem? (i := 0) rfl))) (g := (mkF m 56 #[.val (.int p1), .val (.int p2), .val (.int p3), .val (.int p1), .val (.int p2), .val (.ref b4), .unset] [(.int p2), (.int p1)])) rfl (hb hby at_56) _ ?_
          show Steps p.tables e below (T6.setTop (mkF m 58 #[.val (.int p1), .val (.int p2), .val (.int p3), .val (.int p1), .val (.int p2), .val (.ref b4), .unset] [(.int (2147483647 : Int32)), (.int p2), (.int p1)])) _
          refine XS.ixor X6.here hx rfl (hb hby at_58) rfl ?_
          show Steps p.tables e below (T6.setTop (mkF m 59 #[.val (.int p1), .val (.int p2), .val (.int p3), .val (.int p1), .val (.int p2), .val (.ref b4), .unset] [(.int (p2 ^^^ (2147483647 : Int32))), (.int p1)])) _
          refine XS.ior X6.here hx rfl (hb hby at_59) rfl ?_
          exact kt
        by_cases hc4 : (p1 ||| (p2 ^^^ (2147483647 : Int32))) = (0 : Int32)
        ·
          obtain ⟨cq13, kq13, q13a, q13b, q13c⟩ := isOf hZ rfl Q6_0
          obtain ⟨v13, _, ⟨T13, L13, k13, n13⟩, -, X13, ⟨Lc13, hQ13, l13, y13, z13⟩, st13⟩ := X6.virtualBack hx (y := (⟨"com/example/fetch_plan/fetchplan/Page", "keepsAll", "()Z"⟩ : MethodName)) (z := (⟨"com/example/fetch_plan/fetchplan/Page", "keepsAll", "()Z"⟩ : MethodName)) hown (mvT hZ (hw _ (List.mem_of_getElem? (i := 19) rfl))) (mvT hZ (hw _ (List.mem_of_getElem? (i := 20) rfl))) (notFace_of_selects (args := #[]) (mvT hZ (hw _ (List.mem_of_getElem? (i := 22) rfl)))) (mvT hZ (hw _ (List.mem_of_getElem? (i := 22) rfl))) (mvT hZ (hw _ (List.mem_of_getElem? (i := 21) rfl))) (by decide) (backOf (W := 0) (own_rm4 l Z a0 hw [] b4 p1 p2 T6.heap n0 Z10 Q6_1 Q6_2) hZ (hw _ (List.mem_of_getElem? (i := 23) rfl)) (hw _ (List.mem_of_getElem? (i := 3) rfl)) (by decide) (by decide)) q13a q13c (g := (mkF m 72 #[.val (.int p1), .val (.int p2), .val (.int p3), .val (.int p1), .val (.int p2), .val (.ref b4), .val (.int (1 : Int32))] [(.ref b4)])) rfl (by rw [hml]; rfl) (Steps.refl _) (argsL := []) (rest := []) (lenOf own_pd27 rfl) rfl (by show 2 * 0 + _ ≤ _; exact Nat.le_of_eq rfl) (hb hby at_72) (fun _ _ => ⟨rfl, rfl, (by decide : 1 + 0 ≤ _), (by decide : 2 + 0 ≤ _)⟩)
          dsimp only [Pt.U, Pt.locs, Pt.cells, Pt.slots] at X13 l13 y13 z13 st13 hQ13
          subst l13 y13 z13
          obtain ⟨rfl, N13q, e13⟩ := hQ13
          have N14 := Fr.app N11 N13q
          have k15 : ∀ t, Steps p.tables e below (T13.setTop (mkF m 77 #[.val (.int p1), .val (.int p2), .val (.int p3), .val (.int p1), .val (.int p2), .val (.ref b4), .val (.int (1 : Int32))] [(.int (1 : Int32)), (.int (own_f4 p1 p2))])) t → Steps p.tables e below (s₁.setTop (entryFrame m #[(.int p1), (.int p2), (.int p3)] maxLocals)) t := by
            intro t kt
            refine k12 t ?_
            show Steps p.tables e below (T6.setTop (mkF m 60 #[.val (.int p1), .val (.int p2), .val (.int p3), .val (.int p1), .val (.int p2), .val (.ref b4), .unset] [(.int (p1 ||| (p2 ^^^ (2147483647 : Int32))))])) _
            refine XS.ifNo X6.here hx rfl (hb hby at_60) rfl ((if0 _ _).trans (teq hc4).2) ?_
            show Steps p.tables e below (T6.setTop (mkF m 63 #[.val (.int p1), .val (.int p2), .val (.int p3), .val (.int p1), .val (.int p2), .val (.ref b4), .unset] [])) _
            refine XS.iconst X6.here hx rfl (hb hby at_63) ?_
            show Steps p.tables e below (T6.setTop (mkF m 64 #[.val (.int p1), .val (.int p2), .val (.int p3), .val (.int p1), .val (.int p2), .val (.ref b4), .unset] [(.int (1 : Int32))])) _
            refine XS.goto X6.here hx rfl (pc0 := 64) (pc' := 68) rfl (hb hby at_64) (by decide) (by decide) ?_
            show Steps p.tables e below (T6.setTop (mkF m 68 #[.val (.int p1), .val (.int p2), .val (.int p3), .val (.int p1), .val (.int p2), .val (.ref b4), .unset] [(.int (1 : Int32))])) _
            refine XS.istore X6.here hx rfl (hb hby at_68) rfl (l' := #[.val (.int p1), .val (.int p2), .val (.int p3), .val (.int p1), .val (.int p2), .val (.ref b4), .val (.int (1 : Int32))]) rfl ?_
            show Steps p.tables e below (T6.setTop (mkF m 70 #[.val (.int p1), .val (.int p2), .val (.int p3), .val (.int p1), .val (.int p2), .val (.ref b4), .val (.int (1 : Int32))] [])) _
            refine XS.aload X6.here hx rfl (hb hby at_70) rfl rfl ?_
            show Steps p.tables e below (T6.setTop (mkF m 72 #[.val (.int p1), .val (.int p2), .val (.int p3), .val (.int p1), .val (.int p2), .val (.ref b4), .val (.int (1 : Int32))] [(.ref b4)])) _
            refine st13.trans ?_
            show Steps p.tables e below (T13.setTop (mkF m 75 #[.val (.int p1), .val (.int p2), .val (.int p3), .val (.int p1), .val (.int p2), .val (.ref b4), .val (.int (1 : Int32))] [(.int (own_f4 p1 p2))])) _
            refine XS.iload X13.here hx rfl (hb hby at_75) rfl ?_
            exact kt
          by_cases hc5 : (own_f4 p1 p2) = (1 : Int32)
          ·
            obtain ⟨fs, hr, hrun, hended, hW, hsame⟩ := X13.leave (v := some (.int (1 : Int32))) (fun h => by rw [Bd.returns] at h; cases h)
            refine ⟨_, _, k15 _ ?_, hrun, hended, _, _, rfl, ?_, ⟨_, rfl⟩, hW, hsame.mono (by decide) (by decide)⟩
            · show Steps p.tables e below (T13.setTop (mkF m 77 #[.val (.int p1), .val (.int p2), .val (.int p3), .val (.int p1), .val (.int p2), .val (.ref b4), .val (.int (1 : Int32))] [(.int (1 : Int32)), (.int (own_f4 p1 p2))])) _
              refine XS.icmpNo X13.here hx rfl (hb hby at_77) rfl (teq hc5).2 ?_
              show Steps p.tables e below (T13.setTop (mkF m 80 #[.val (.int p1), .val (.int p2), .val (.int p3), .val (.int p1), .val (.int p2), .val (.ref b4), .val (.int (1 : Int32))] [])) _
              refine XS.iconst X13.here hx rfl (hb hby at_80) ?_
              show Steps p.tables e below (T13.setTop (mkF m 81 #[.val (.int p1), .val (.int p2), .val (.int p3), .val (.int p1), .val (.int p2), .val (.ref b4), .val (.int (1 : Int32))] [(.int (1 : Int32))])) _
              refine XS.goto X13.here hx rfl (pc0 := 81) (pc' := 85) rfl (hb hby at_81) (by decide) (by decide) ?_
              show Steps p.tables e below (T13.setTop (mkF m 85 #[.val (.int p1), .val (.int p2), .val (.int p3), .val (.int p1), .val (.int p2), .val (.ref b4), .val (.int (1 : Int32))] [(.int (1 : Int32))])) _
              exact retN X13 hx (t := .boolean) Bd.returns (by simp) (hb hby at_85) hr
            · show own_Q0 Z p1 p2 p3 h0 n0 _ T13.heap _
              rw [e13]
              exact ⟨(by rw [own_f0, if_pos hc1, if_pos hc2, if_pos hc3, if_pos hc4, if_pos hc5]), N14⟩
          ·
            obtain ⟨fs, hr, hrun, hended, hW, hsame⟩ := X13.leave (v := some (.int (0 : Int32))) (fun h => by rw [Bd.returns] at h; cases h)
            refine ⟨_, _, k15 _ ?_, hrun, hended, _, _, rfl, ?_, ⟨_, rfl⟩, hW, hsame.mono (by decide) (by decide)⟩
            · show Steps p.tables e below (T13.setTop (mkF m 77 #[.val (.int p1), .val (.int p2), .val (.int p3), .val (.int p1), .val (.int p2), .val (.ref b4), .val (.int (1 : Int32))] [(.int (1 : Int32)), (.int (own_f4 p1 p2))])) _
              refine XS.icmpYes X13.here hx rfl (pc0 := 77) (pc' := 84) rfl (hb hby at_77) rfl (feq hc5).2 (by decide) (by decide) ?_
              show Steps p.tables e below (T13.setTop (mkF m 84 #[.val (.int p1), .val (.int p2), .val (.int p3), .val (.int p1), .val (.int p2), .val (.ref b4), .val (.int (1 : Int32))] [])) _
              refine XS.iconst X13.here hx rfl (hb hby at_84) ?_
              show Steps p.tables e below (T13.setTop (mkF m 85 #[.val (.int p1), .val (.int p2), .val (.int p3), .val (.int p1), .val (.int p2), .val (.ref b4), .val (.int (1 : Int32))] [(.int (0 : Int32))])) _
              exact retN X13 hx (t := .boolean) Bd.returns (by simp) (hb hby at_85) hr
            · show own_Q0 Z p1 p2 p3 h0 n0 _ T13.heap _
              rw [e13]
              exact ⟨(by rw [own_f0, if_pos hc1, if_pos hc2, if_pos hc3, if_pos hc4, if_neg hc5]), N14⟩
        ·
          obtain ⟨cq16, kq16, q16a, q16b, q16c⟩ := isOf hZ rfl Q6_0
          obtain ⟨v16, _, ⟨T16, L16, k16, n16⟩, -, X16, ⟨Lc16, hQ16, l16, y16, z16⟩, st16⟩ := X6.virtualBack hx (y := (⟨"com/example/fetch_plan/fetchplan/Page", "keepsAll", "()Z"⟩ : MethodName)) (z := (⟨"com/example/fetch_plan/fetchplan/Page", "keepsAll", "()Z"⟩ : MethodName)) hown (mvT hZ (hw _ (List.mem_of_getElem? (i := 19) rfl))) (mvT hZ (hw _ (List.mem_of_getElem? (i := 20) rfl))) (notFace_of_selects (args := #[]) (mvT hZ (hw _ (List.mem_of_getElem? (i := 22) rfl)))) (mvT hZ (hw _ (List.mem_of_getElem? (i := 22) rfl))) (mvT hZ (hw _ (List.mem_of_getElem? (i := 21) rfl))) (by decide) (backOf (W := 0) (own_rm4 l Z a0 hw [] b4 p1 p2 T6.heap n0 Z10 Q6_1 Q6_2) hZ (hw _ (List.mem_of_getElem? (i := 23) rfl)) (hw _ (List.mem_of_getElem? (i := 3) rfl)) (by decide) (by decide)) q16a q16c (g := (mkF m 72 #[.val (.int p1), .val (.int p2), .val (.int p3), .val (.int p1), .val (.int p2), .val (.ref b4), .val (.int (0 : Int32))] [(.ref b4)])) rfl (by rw [hml]; rfl) (Steps.refl _) (argsL := []) (rest := []) (lenOf own_pd27 rfl) rfl (by show 2 * 0 + _ ≤ _; exact Nat.le_of_eq rfl) (hb hby at_72) (fun _ _ => ⟨rfl, rfl, (by decide : 1 + 0 ≤ _), (by decide : 2 + 0 ≤ _)⟩)
          dsimp only [Pt.U, Pt.locs, Pt.cells, Pt.slots] at X16 l16 y16 z16 st16 hQ16
          subst l16 y16 z16
          obtain ⟨rfl, N16q, e16⟩ := hQ16
          have N17 := Fr.app N11 N16q
          have k18 : ∀ t, Steps p.tables e below (T16.setTop (mkF m 77 #[.val (.int p1), .val (.int p2), .val (.int p3), .val (.int p1), .val (.int p2), .val (.ref b4), .val (.int (0 : Int32))] [(.int (0 : Int32)), (.int (own_f4 p1 p2))])) t → Steps p.tables e below (s₁.setTop (entryFrame m #[(.int p1), (.int p2), (.int p3)] maxLocals)) t := by
            intro t kt
            refine k12 t ?_
            show Steps p.tables e below (T6.setTop (mkF m 60 #[.val (.int p1), .val (.int p2), .val (.int p3), .val (.int p1), .val (.int p2), .val (.ref b4), .unset] [(.int (p1 ||| (p2 ^^^ (2147483647 : Int32))))])) _
            refine XS.ifYes X6.here hx rfl (pc0 := 60) (pc' := 67) rfl (hb hby at_60) rfl ((if0 _ _).trans (feq hc4).2) (by decide) (by decide) ?_
            show Steps p.tables e below (T6.setTop (mkF m 67 #[.val (.int p1), .val (.int p2), .val (.int p3), .val (.int p1), .val (.int p2), .val (.ref b4), .unset] [])) _
            refine XS.iconst X6.here hx rfl (hb hby at_67) ?_
            show Steps p.tables e below (T6.setTop (mkF m 68 #[.val (.int p1), .val (.int p2), .val (.int p3), .val (.int p1), .val (.int p2), .val (.ref b4), .unset] [(.int (0 : Int32))])) _
            refine XS.istore X6.here hx rfl (hb hby at_68) rfl (l' := #[.val (.int p1), .val (.int p2), .val (.int p3), .val (.int p1), .val (.int p2), .val (.ref b4), .val (.int (0 : Int32))]) rfl ?_
            show Steps p.tables e below (T6.setTop (mkF m 70 #[.val (.int p1), .val (.int p2), .val (.int p3), .val (.int p1), .val (.int p2), .val (.ref b4), .val (.int (0 : Int32))] [])) _
            refine XS.aload X6.here hx rfl (hb hby at_70) rfl rfl ?_
            show Steps p.tables e below (T6.setTop (mkF m 72 #[.val (.int p1), .val (.int p2), .val (.int p3), .val (.int p1), .val (.int p2), .val (.ref b4), .val (.int (0 : Int32))] [(.ref b4)])) _
            refine st16.trans ?_
            show Steps p.tables e below (T16.setTop (mkF m 75 #[.val (.int p1), .val (.int p2), .val (.int p3), .val (.int p1), .val (.int p2), .val (.ref b4), .val (.int (0 : Int32))] [(.int (own_f4 p1 p2))])) _
            refine XS.iload X16.here hx rfl (hb hby at_75) rfl ?_
            exact kt
          by_cases hc6 : (own_f4 p1 p2) = (0 : Int32)
          ·
            obtain ⟨fs, hr, hrun, hended, hW, hsame⟩ := X16.leave (v := some (.int (1 : Int32))) (fun h => by rw [Bd.returns] at h; cases h)
            refine ⟨_, _, k18 _ ?_, hrun, hended, _, _, rfl, ?_, ⟨_, rfl⟩, hW, hsame.mono (by decide) (by decide)⟩
            · show Steps p.tables e below (T16.setTop (mkF m 77 #[.val (.int p1), .val (.int p2), .val (.int p3), .val (.int p1), .val (.int p2), .val (.ref b4), .val (.int (0 : Int32))] [(.int (0 : Int32)), (.int (own_f4 p1 p2))])) _
              refine XS.icmpNo X16.here hx rfl (hb hby at_77) rfl (teq hc6).2 ?_
              show Steps p.tables e below (T16.setTop (mkF m 80 #[.val (.int p1), .val (.int p2), .val (.int p3), .val (.int p1), .val (.int p2), .val (.ref b4), .val (.int (0 : Int32))] [])) _
              refine XS.iconst X16.here hx rfl (hb hby at_80) ?_
              show Steps p.tables e below (T16.setTop (mkF m 81 #[.val (.int p1), .val (.int p2), .val (.int p3), .val (.int p1), .val (.int p2), .val (.ref b4), .val (.int (0 : Int32))] [(.int (1 : Int32))])) _
              refine XS.goto X16.here hx rfl (pc0 := 81) (pc' := 85) rfl (hb hby at_81) (by decide) (by decide) ?_
              show Steps p.tables e below (T16.setTop (mkF m 85 #[.val (.int p1), .val (.int p2), .val (.int p3), .val (.int p1), .val (.int p2), .val (.ref b4), .val (.int (0 : Int32))] [(.int (1 : Int32))])) _
              exact retN X16 hx (t := .boolean) Bd.returns (by simp) (hb hby at_85) hr
            · show own_Q0 Z p1 p2 p3 h0 n0 _ T16.heap _
              rw [e16]
              exact ⟨(by rw [own_f0, if_pos hc1, if_pos hc2, if_pos hc3, if_neg hc4, if_pos hc6]), N17⟩
          ·
            obtain ⟨fs, hr, hrun, hended, hW, hsame⟩ := X16.leave (v := some (.int (0 : Int32))) (fun h => by rw [Bd.returns] at h; cases h)
            refine ⟨_, _, k18 _ ?_, hrun, hended, _, _, rfl, ?_, ⟨_, rfl⟩, hW, hsame.mono (by decide) (by decide)⟩
            · show Steps p.tables e below (T16.setTop (mkF m 77 #[.val (.int p1), .val (.int p2), .val (.int p3), .val (.int p1), .val (.int p2), .val (.ref b4), .val (.int (0 : Int32))] [(.int (0 : Int32)), (.int (own_f4 p1 p2))])) _
              refine XS.icmpYes X16.here hx rfl (pc0 := 77) (pc' := 84) rfl (hb hby at_77) rfl (feq hc6).2 (by decide) (by decide) ?_
              show Steps p.tables e below (T16.setTop (mkF m 84 #[.val (.int p1), .val (.int p2), .val (.int p3), .val (.int p1), .val (.int p2), .val (.ref b4), .val (.int (0 : Int32))] [])) _
              refine XS.iconst X16.here hx rfl (hb hby at_84) ?_
              show Steps p.tables e below (T16.setTop (mkF m 85 #[.val (.int p1), .val (.int p2), .val (.int p3), .val (.int p1), .val (.int p2), .val (.ref b4), .val (.int (0 : Int32))] [(.int (0 : Int32))])) _
              exact retN X16 hx (t := .boolean) Bd.returns (by simp) (hb hby at_85) hr
            · show own_Q0 Z p1 p2 p3 h0 n0 _ T16.heap _
              rw [e16]
              exact ⟨(by rw [own_f0, if_pos hc1, if_pos hc2, if_pos hc3, if_neg hc4, if_neg hc6]), N17⟩
      ·
        obtain ⟨T19, h19, X19, e19, E19, A19, D19, -, st19⟩ := newO X0 hx hZ hown (hw _ (List.mem_of_getElem? (i := 1) rfl)) (hw _ (List.mem_of_getElem? (i := 2) rfl)) (hw _ (List.mem_of_getElem? (i := 3) rfl)) e0 (g := (mkF m 41 #[.val (.int p1), .val (.int p2), .val (.int p3), .val (.int p1), .val (.int (2147483646 : Int32)), .unset, .unset] [])) rfl (hb hby at_41) (by decide) (by decide)
        obtain ⟨b19, g19⟩ : ∃ z, z = h0.size := ⟨_, rfl⟩
        rw [← g19] at A19 D19 st19
        have g_b19 : n0 ≤ b19 := Nat.le_trans Z0 (Nat.le_of_eq g19.symm)
        have Z20 := Nat.le_trans Z0 E19.1
        have F_first_b19 : Fld Z h19 b19 "com/example/fetch_plan/fetchplan/Page" "first" "I" (.int (0 : Int32)) := D19 (Or.inr (hw _ (List.mem_of_getElem? (i := 16) rfl))) (ty := .int) (by decide)
        have F_max_b19 : Fld Z h19 b19 "com/example/fetch_plan/fetchplan/Page" "max" "I" (.int (0 : Int32)) := D19 (Or.inr (hw _ (List.mem_of_getElem? (i := 18) rfl))) (ty := .int) (by decide)
        obtain ⟨v21, _, ⟨T21, L21, k21, n21⟩, -, X21, ⟨Lc21, hQ21, l21, y21, z21⟩, st21⟩ := X19.specialBack hx (y := (⟨"com/example/fetch_plan/fetchplan/Page", "<init>", "(II)V"⟩ : MethodName)) rfl hown (mvT hZ (hw _ (List.mem_of_getElem? (i := 4) rfl))) (mvT hZ (hw _ (List.mem_of_getElem? (i := 5) rfl))) (mvT hZ (hw _ (List.mem_of_getElem? (i := 6) rfl))) (by decide) (backOf (W := 1) (own_rm1 l Z a0 hw [] b19 p1 (2147483646 : Int32) (0 : Int32) (0 : Int32) h19 n0 Z20 A19 F_first_b19 g_b19 F_max_b19) hZ (hw _ (List.mem_of_getElem? (i := 6) rfl)) (hw _ (List.mem_of_getElem? (i := 3) rfl)) (by decide) (by decide)) (g := (mkF m 48 #[.val (.int p1), .val (.int p2), .val (.int p3), .val (.int p1), .val (.int (2147483646 : Int32)), .unset, .unset] [(.int (2147483646 : Int32)), (.int p1), (.ref b19), (.ref b19)])) rfl (by rw [hml]; rfl) (Steps.refl _) (a := b19) (argsL := [(.int p1), (.int (2147483646 : Int32))]) (rest := [(.ref b19)]) (lenOf own_pd26 rfl) rfl (by show 2 * 0 + _ ≤ _; exact Nat.le_of_eq rfl) (hb hby at_48) (fun _ _ => ⟨rfl, e19, (by decide : 1 + 0 ≤ _), (by decide : 2 + 0 ≤ _)⟩)
        dsimp only [Pt.U, Pt.locs, Pt.cells, Pt.slots] at X21 l21 y21 z21 st21 hQ21
        subst l21 y21 z21
        obtain ⟨rfl, N21q, K21, Q21_0, Q21_1, Q21_2⟩ := hQ21
        have f22 := A19.keep K21
        have Z25 := Nat.le_trans Z20 K21.1
        have N26 := Fr.app N0 N21q
        have k27 : ∀ t, Steps p.tables e below (T21.setTop (mkF m 60 #[.val (.int p1), .val (.int p2), .val (.int p3), .val (.int p1), .val (.int (2147483646 : Int32)), .val (.ref b19), .unset] [(.int (p1 ||| (1 : Int32)))])) t → Steps p.tables e below (s₁.setTop (entryFrame m #[(.int p1), (.int p2), (.int p3)] maxLocals)) t := by
          intro t kt
          refine k3 t ?_
          show Steps p.tables e below (s₁.setTop (mkF m 28 #[.val (.int p1), .val (.int p2), .val (.int p3), .val (.int p1), .unset, .unset, .unset] [(.int (p3 &&& (4 : Int32)))])) _
          refine XS.ifNo X0.here hx rfl (hb hby at_28) rfl ((if0 _ _).trans (feq hc3).1) ?_
          show Steps p.tables e below (s₁.setTop (mkF m 31 #[.val (.int p1), .val (.int p2), .val (.int p3), .val (.int p1), .unset, .unset, .unset] [])) _
          refine X0.ldcInt hx hown (mvT hZ (hw _ (List.mem_of_getElem? (i := 25) rfl))) (g := (mkF m 31 #[.val (.int p1), .val (.int p2), .val (.int p3), .val (.int p1), .unset, .unset, .unset] [])) rfl (hb hby at_31) _ ?_
          show Steps p.tables e below (s₁.setTop (mkF m 33 #[.val (.int p1), .val (.int p2), .val (.int p3), .val (.int p1), .unset, .unset, .unset] [(.int (2147483646 : Int32))])) _
          refine XS.istore X0.here hx rfl (hb hby at_33) rfl (l' := #[.val (.int p1), .val (.int p2), .val (.int p3), .val (.int p1), .val (.int (2147483646 : Int32)), .unset, .unset]) rfl ?_
          show Steps p.tables e below (s₁.setTop (mkF m 35 #[.val (.int p1), .val (.int p2), .val (.int p3), .val (.int p1), .val (.int (2147483646 : Int32)), .unset, .unset] [])) _
          refine XS.goto X0.here hx rfl (pc0 := 35) (pc' := 41) rfl (hb hby at_35) (by decide) (by decide) ?_
          show Steps p.tables e below (s₁.setTop (mkF m 41 #[.val (.int p1), .val (.int p2), .val (.int p3), .val (.int p1), .val (.int (2147483646 : Int32)), .unset, .unset] [])) _
          refine st19 _ ?_
          show Steps p.tables e below (T19.setTop (mkF m 44 #[.val (.int p1), .val (.int p2), .val (.int p3), .val (.int p1), .val (.int (2147483646 : Int32)), .unset, .unset] [(.ref b19)])) _
          refine XS.dup X19.here hx rfl (hb hby at_44) rfl rfl ?_
          show Steps p.tables e below (T19.setTop (mkF m 45 #[.val (.int p1), .val (.int p2), .val (.int p3), .val (.int p1), .val (.int (2147483646 : Int32)), .unset, .unset] [(.ref b19), (.ref b19)])) _
          refine XS.iloadN X19.here hx rfl (hb hby at_45) rfl ?_
          show Steps p.tables e below (T19.setTop (mkF m 46 #[.val (.int p1), .val (.int p2), .val (.int p3), .val (.int p1), .val (.int (2147483646 : Int32)), .unset, .unset] [(.int p1), (.ref b19), (.ref b19)])) _
          refine XS.iload X19.here hx rfl (hb hby at_46) rfl ?_
          show Steps p.tables e below (T19.setTop (mkF m 48 #[.val (.int p1), .val (.int p2), .val (.int p3), .val (.int p1), .val (.int (2147483646 : Int32)), .unset, .unset] [(.int (2147483646 : Int32)), (.int p1), (.ref b19), (.ref b19)])) _
          refine st21.trans ?_
          show Steps p.tables e below (T21.setTop (mkF m 51 #[.val (.int p1), .val (.int p2), .val (.int p3), .val (.int p1), .val (.int (2147483646 : Int32)), .unset, .unset] [(.ref b19)])) _
          refine XS.astore X21.here hx rfl (hb hby at_51) rfl rfl (l' := #[.val (.int p1), .val (.int p2), .val (.int p3), .val (.int p1), .val (.int (2147483646 : Int32)), .val (.ref b19), .unset]) rfl ?_
          show Steps p.tables e below (T21.setTop (mkF m 53 #[.val (.int p1), .val (.int p2), .val (.int p3), .val (.int p1), .val (.int (2147483646 : Int32)), .val (.ref b19), .unset] [])) _
          refine XS.iloadN X21.here hx rfl (hb hby at_53) rfl ?_
          show Steps p.tables e below (T21.setTop (mkF m 54 #[.val (.int p1), .val (.int p2), .val (.int p3), .val (.int p1), .val (.int (2147483646 : Int32)), .val (.ref b19), .unset] [(.int p1)])) _
          refine XS.iload X21.here hx rfl (hb hby at_54) rfl ?_
          show Steps p.tables e below (T21.setTop (mkF m 56 #[.val (.int p1), .val (.int p2), .val (.int p3), .val (.int p1), .val (.int (2147483646 : Int32)), .val (.ref b19), .unset] [(.int (2147483646 : Int32)), (.int p1)])) _
          refine X21.ldcInt hx hown (mvT hZ (hw _ (List.mem_of_getElem? (i := 0) rfl))) (g := (mkF m 56 #[.val (.int p1), .val (.int p2), .val (.int p3), .val (.int p1), .val (.int (2147483646 : Int32)), .val (.ref b19), .unset] [(.int (2147483646 : Int32)), (.int p1)])) rfl (hb hby at_56) _ ?_
          show Steps p.tables e below (T21.setTop (mkF m 58 #[.val (.int p1), .val (.int p2), .val (.int p3), .val (.int p1), .val (.int (2147483646 : Int32)), .val (.ref b19), .unset] [(.int (2147483647 : Int32)), (.int (2147483646 : Int32)), (.int p1)])) _
          refine XS.ixor X21.here hx rfl (hb hby at_58) rfl ?_
          show Steps p.tables e below (T21.setTop (mkF m 59 #[.val (.int p1), .val (.int p2), .val (.int p3), .val (.int p1), .val (.int (2147483646 : Int32)), .val (.ref b19), .unset] [(.int (1 : Int32)), (.int p1)])) _
          refine XS.ior X21.here hx rfl (hb hby at_59) rfl ?_
          exact kt
        by_cases hc7 : (p1 ||| (1 : Int32)) = (0 : Int32)
        ·
          obtain ⟨cq28, kq28, q28a, q28b, q28c⟩ := isOf hZ rfl Q21_0
          obtain ⟨v28, _, ⟨T28, L28, k28, n28⟩, -, X28, ⟨Lc28, hQ28, l28, y28, z28⟩, st28⟩ := X21.virtualBack hx (y := (⟨"com/example/fetch_plan/fetchplan/Page", "keepsAll", "()Z"⟩ : MethodName)) (z := (⟨"com/example/fetch_plan/fetchplan/Page", "keepsAll", "()Z"⟩ : MethodName)) hown (mvT hZ (hw _ (List.mem_of_getElem? (i := 19) rfl))) (mvT hZ (hw _ (List.mem_of_getElem? (i := 20) rfl))) (notFace_of_selects (args := #[]) (mvT hZ (hw _ (List.mem_of_getElem? (i := 22) rfl)))) (mvT hZ (hw _ (List.mem_of_getElem? (i := 22) rfl))) (mvT hZ (hw _ (List.mem_of_getElem? (i := 21) rfl))) (by decide) (backOf (W := 0) (own_rm4 l Z a0 hw [] b19 p1 (2147483646 : Int32) T21.heap n0 Z25 Q21_1 Q21_2) hZ (hw _ (List.mem_of_getElem? (i := 23) rfl)) (hw _ (List.mem_of_getElem? (i := 3) rfl)) (by decide) (by decide)) q28a q28c (g := (mkF m 72 #[.val (.int p1), .val (.int p2), .val (.int p3), .val (.int p1), .val (.int (2147483646 : Int32)), .val (.ref b19), .val (.int (1 : Int32))] [(.ref b19)])) rfl (by rw [hml]; rfl) (Steps.refl _) (argsL := []) (rest := []) (lenOf own_pd27 rfl) rfl (by show 2 * 0 + _ ≤ _; exact Nat.le_of_eq rfl) (hb hby at_72) (fun _ _ => ⟨rfl, rfl, (by decide : 1 + 0 ≤ _), (by decide : 2 + 0 ≤ _)⟩)
          dsimp only [Pt.U, Pt.locs, Pt.cells, Pt.slots] at X28 l28 y28 z28 st28 hQ28
          subst l28 y28 z28
          obtain ⟨rfl, N28q, e28⟩ := hQ28
          have N29 := Fr.app N26 N28q
          have k30 : ∀ t, Steps p.tables e below (T28.setTop (mkF m 77 #[.val (.int p1), .val (.int p2), .val (.int p3), .val (.int p1), .val (.int (2147483646 : Int32)), .val (.ref b19), .val (.int (1 : Int32))] [(.int (1 : Int32)), (.int (own_f4 p1 (2147483646 : Int32)))])) t → Steps p.tables e below (s₁.setTop (entryFrame m #[(.int p1), (.int p2), (.int p3)] maxLocals)) t := by
            intro t kt
            refine k27 t ?_
            show Steps p.tables e below (T21.setTop (mkF m 60 #[.val (.int p1), .val (.int p2), .val (.int p3), .val (.int p1), .val (.int (2147483646 : Int32)), .val (.ref b19), .unset] [(.int (p1 ||| (1 : Int32)))])) _
            refine XS.ifNo X21.here hx rfl (hb hby at_60) rfl ((if0 _ _).trans (teq hc7).2) ?_
            show Steps p.tables e below (T21.setTop (mkF m 63 #[.val (.int p1), .val (.int p2), .val (.int p3), .val (.int p1), .val (.int (2147483646 : Int32)), .val (.ref b19), .unset] [])) _
            refine XS.iconst X21.here hx rfl (hb hby at_63) ?_
            show Steps p.tables e below (T21.setTop (mkF m 64 #[.val (.int p1), .val (.int p2), .val (.int p3), .val (.int p1), .val (.int (2147483646 : Int32)), .val (.ref b19), .unset] [(.int (1 : Int32))])) _
            refine XS.goto X21.here hx rfl (pc0 := 64) (pc' := 68) rfl (hb hby at_64) (by decide) (by decide) ?_
            show Steps p.tables e below (T21.setTop (mkF m 68 #[.val (.int p1), .val (.int p2), .val (.int p3), .val (.int p1), .val (.int (2147483646 : Int32)), .val (.ref b19), .unset] [(.int (1 : Int32))])) _
            refine XS.istore X21.here hx rfl (hb hby at_68) rfl (l' := #[.val (.int p1), .val (.int p2), .val (.int p3), .val (.int p1), .val (.int (2147483646 : Int32)), .val (.ref b19), .val (.int (1 : Int32))]) rfl ?_
            show Steps p.tables e below (T21.setTop (mkF m 70 #[.val (.int p1), .val (.int p2), .val (.int p3), .val (.int p1), .val (.int (2147483646 : Int32)), .val (.ref b19), .val (.int (1 : Int32))] [])) _
            refine XS.aload X21.here hx rfl (hb hby at_70) rfl rfl ?_
            show Steps p.tables e below (T21.setTop (mkF m 72 #[.val (.int p1), .val (.int p2), .val (.int p3), .val (.int p1), .val (.int (2147483646 : Int32)), .val (.ref b19), .val (.int (1 : Int32))] [(.ref b19)])) _
            refine st28.trans ?_
            show Steps p.tables e below (T28.setTop (mkF m 75 #[.val (.int p1), .val (.int p2), .val (.int p3), .val (.int p1), .val (.int (2147483646 : Int32)), .val (.ref b19), .val (.int (1 : Int32))] [(.int (own_f4 p1 (2147483646 : Int32)))])) _
            refine XS.iload X28.here hx rfl (hb hby at_75) rfl ?_
            exact kt
          by_cases hc8 : (own_f4 p1 (2147483646 : Int32)) = (1 : Int32)
          ·
            obtain ⟨fs, hr, hrun, hended, hW, hsame⟩ := X28.leave (v := some (.int (1 : Int32))) (fun h => by rw [Bd.returns] at h; cases h)
            refine ⟨_, _, k30 _ ?_, hrun, hended, _, _, rfl, ?_, ⟨_, rfl⟩, hW, hsame.mono (by decide) (by decide)⟩
            · show Steps p.tables e below (T28.setTop (mkF m 77 #[.val (.int p1), .val (.int p2), .val (.int p3), .val (.int p1), .val (.int (2147483646 : Int32)), .val (.ref b19), .val (.int (1 : Int32))] [(.int (1 : Int32)), (.int (own_f4 p1 (2147483646 : Int32)))])) _
              refine XS.icmpNo X28.here hx rfl (hb hby at_77) rfl (teq hc8).2 ?_
              show Steps p.tables e below (T28.setTop (mkF m 80 #[.val (.int p1), .val (.int p2), .val (.int p3), .val (.int p1), .val (.int (2147483646 : Int32)), .val (.ref b19), .val (.int (1 : Int32))] [])) _
              refine XS.iconst X28.here hx rfl (hb hby at_80) ?_
              show Steps p.tables e below (T28.setTop (mkF m 81 #[.val (.int p1), .val (.int p2), .val (.int p3), .val (.int p1), .val (.int (2147483646 : Int32)), .val (.ref b19), .val (.int (1 : Int32))] [(.int (1 : Int32))])) _
              refine XS.goto X28.here hx rfl (pc0 := 81) (pc' := 85) rfl (hb hby at_81) (by decide) (by decide) ?_
              show Steps p.tables e below (T28.setTop (mkF m 85 #[.val (.int p1), .val (.int p2), .val (.int p3), .val (.int p1), .val (.int (2147483646 : Int32)), .val (.ref b19), .val (.int (1 : Int32))] [(.int (1 : Int32))])) _
              exact retN X28 hx (t := .boolean) Bd.returns (by simp) (hb hby at_85) hr
            · show own_Q0 Z p1 p2 p3 h0 n0 _ T28.heap _
              rw [e28]
              exact ⟨(by rw [own_f0, if_pos hc1, if_pos hc2, if_neg hc3, if_pos hc7, if_pos hc8]), N29⟩
          ·
            obtain ⟨fs, hr, hrun, hended, hW, hsame⟩ := X28.leave (v := some (.int (0 : Int32))) (fun h => by rw [Bd.returns] at h; cases h)
            refine ⟨_, _, k30 _ ?_, hrun, hended, _, _, rfl, ?_, ⟨_, rfl⟩, hW, hsame.mono (by decide) (by decide)⟩
            · show Steps p.tables e below (T28.setTop (mkF m 77 #[.val (.int p1), .val (.int p2), .val (.int p3), .val (.int p1), .val (.int (2147483646 : Int32)), .val (.ref b19), .val (.int (1 : Int32))] [(.int (1 : Int32)), (.int (own_f4 p1 (2147483646 : Int32)))])) _
              refine XS.icmpYes X28.here hx rfl (pc0 := 77) (pc' := 84) rfl (hb hby at_77) rfl (feq hc8).2 (by decide) (by decide) ?_
              show Steps p.tables e below (T28.setTop (mkF m 84 #[.val (.int p1), .val (.int p2), .val (.int p3), .val (.int p1), .val (.int (2147483646 : Int32)), .val (.ref b19), .val (.int (1 : Int32))] [])) _
              refine XS.iconst X28.here hx rfl (hb hby at_84) ?_
              show Steps p.tables e below (T28.setTop (mkF m 85 #[.val (.int p1), .val (.int p2), .val (.int p3), .val (.int p1), .val (.int (2147483646 : Int32)), .val (.ref b19), .val (.int (1 : Int32))] [(.int (0 : Int32))])) _
              exact retN X28 hx (t := .boolean) Bd.returns (by simp) (hb hby at_85) hr
            · show own_Q0 Z p1 p2 p3 h0 n0 _ T28.heap _
              rw [e28]
              exact ⟨(by rw [own_f0, if_pos hc1, if_pos hc2, if_neg hc3, if_pos hc7, if_neg hc8]), N29⟩
        ·
          obtain ⟨cq31, kq31, q31a, q31b, q31c⟩ := isOf hZ rfl Q21_0
          obtain ⟨v31, _, ⟨T31, L31, k31, n31⟩, -, X31, ⟨Lc31, hQ31, l31, y31, z31⟩, st31⟩ := X21.virtualBack hx (y := (⟨"com/example/fetch_plan/fetchplan/Page", "keepsAll", "()Z"⟩ : MethodName)) (z := (⟨"com/example/fetch_plan/fetchplan/Page", "keepsAll", "()Z"⟩ : MethodName)) hown (mvT hZ (hw _ (List.mem_of_getElem? (i := 19) rfl))) (mvT hZ (hw _ (List.mem_of_getElem? (i := 20) rfl))) (notFace_of_selects (args := #[]) (mvT hZ (hw _ (List.mem_of_getElem? (i := 22) rfl)))) (mvT hZ (hw _ (List.mem_of_getElem? (i := 22) rfl))) (mvT hZ (hw _ (List.mem_of_getElem? (i := 21) rfl))) (by decide) (backOf (W := 0) (own_rm4 l Z a0 hw [] b19 p1 (2147483646 : Int32) T21.heap n0 Z25 Q21_1 Q21_2) hZ (hw _ (List.mem_of_getElem? (i := 23) rfl)) (hw _ (List.mem_of_getElem? (i := 3) rfl)) (by decide) (by decide)) q31a q31c (g := (mkF m 72 #[.val (.int p1), .val (.int p2), .val (.int p3), .val (.int p1), .val (.int (2147483646 : Int32)), .val (.ref b19), .val (.int (0 : Int32))] [(.ref b19)])) rfl (by rw [hml]; rfl) (Steps.refl _) (argsL := []) (rest := []) (lenOf own_pd27 rfl) rfl (by show 2 * 0 + _ ≤ _; exact Nat.le_of_eq rfl) (hb hby at_72) (fun _ _ => ⟨rfl, rfl, (by decide : 1 + 0 ≤ _), (by decide : 2 + 0 ≤ _)⟩)
          dsimp only [Pt.U, Pt.locs, Pt.cells, Pt.slots] at X31 l31 y31 z31 st31 hQ31
          subst l31 y31 z31
          obtain ⟨rfl, N31q, e31⟩ := hQ31
          have N32 := Fr.app N26 N31q
          have k33 : ∀ t, Steps p.tables e below (T31.setTop (mkF m 77 #[.val (.int p1), .val (.int p2), .val (.int p3), .val (.int p1), .val (.int (2147483646 : Int32)), .val (.ref b19), .val (.int (0 : Int32))] [(.int (0 : Int32)), (.int (own_f4 p1 (2147483646 : Int32)))])) t → Steps p.tables e below (s₁.setTop (entryFrame m #[(.int p1), (.int p2), (.int p3)] maxLocals)) t := by
            intro t kt
            refine k27 t ?_
            show Steps p.tables e below (T21.setTop (mkF m 60 #[.val (.int p1), .val (.int p2), .val (.int p3), .val (.int p1), .val (.int (2147483646 : Int32)), .val (.ref b19), .unset] [(.int (p1 ||| (1 : Int32)))])) _
            refine XS.ifYes X21.here hx rfl (pc0 := 60) (pc' := 67) rfl (hb hby at_60) rfl ((if0 _ _).trans (feq hc7).2) (by decide) (by decide) ?_
            show Steps p.tables e below (T21.setTop (mkF m 67 #[.val (.int p1), .val (.int p2), .val (.int p3), .val (.int p1), .val (.int (2147483646 : Int32)), .val (.ref b19), .unset] [])) _
            refine XS.iconst X21.here hx rfl (hb hby at_67) ?_
            show Steps p.tables e below (T21.setTop (mkF m 68 #[.val (.int p1), .val (.int p2), .val (.int p3), .val (.int p1), .val (.int (2147483646 : Int32)), .val (.ref b19), .unset] [(.int (0 : Int32))])) _
            refine XS.istore X21.here hx rfl (hb hby at_68) rfl (l' := #[.val (.int p1), .val (.int p2), .val (.int p3), .val (.int p1), .val (.int (2147483646 : Int32)), .val (.ref b19), .val (.int (0 : Int32))]) rfl ?_
            show Steps p.tables e below (T21.setTop (mkF m 70 #[.val (.int p1), .val (.int p2), .val (.int p3), .val (.int p1), .val (.int (2147483646 : Int32)), .val (.ref b19), .val (.int (0 : Int32))] [])) _
            refine XS.aload X21.here hx rfl (hb hby at_70) rfl rfl ?_
            show Steps p.tables e below (T21.setTop (mkF m 72 #[.val (.int p1), .val (.int p2), .val (.int p3), .val (.int p1), .val (.int (2147483646 : Int32)), .val (.ref b19), .val (.int (0 : Int32))] [(.ref b19)])) _
            refine st31.trans ?_
            show Steps p.tables e below (T31.setTop (mkF m 75 #[.val (.int p1), .val (.int p2), .val (.int p3), .val (.int p1), .val (.int (2147483646 : Int32)), .val (.ref b19), .val (.int (0 : Int32))] [(.int (own_f4 p1 (2147483646 : Int32)))])) _
            refine XS.iload X31.here hx rfl (hb hby at_75) rfl ?_
            exact kt
          by_cases hc9 : (own_f4 p1 (2147483646 : Int32)) = (0 : Int32)
          ·
            obtain ⟨fs, hr, hrun, hended, hW, hsame⟩ := X31.leave (v := some (.int (1 : Int32))) (fun h => by rw [Bd.returns] at h; cases h)
            refine ⟨_, _, k33 _ ?_, hrun, hended, _, _, rfl, ?_, ⟨_, rfl⟩, hW, hsame.mono (by decide) (by decide)⟩
            · show Steps p.tables e below (T31.setTop (mkF m 77 #[.val (.int p1), .val (.int p2), .val (.int p3), .val (.int p1), .val (.int (2147483646 : Int32)), .val (.ref b19), .val (.int (0 : Int32))] [(.int (0 : Int32)), (.int (own_f4 p1 (2147483646 : Int32)))])) _
              refine XS.icmpNo X31.here hx rfl (hb hby at_77) rfl (teq hc9).2 ?_
              show Steps p.tables e below (T31.setTop (mkF m 80 #[.val (.int p1), .val (.int p2), .val (.int p3), .val (.int p1), .val (.int (2147483646 : Int32)), .val (.ref b19), .val (.int (0 : Int32))] [])) _
              refine XS.iconst X31.here hx rfl (hb hby at_80) ?_
              show Steps p.tables e below (T31.setTop (mkF m 81 #[.val (.int p1), .val (.int p2), .val (.int p3), .val (.int p1), .val (.int (2147483646 : Int32)), .val (.ref b19), .val (.int (0 : Int32))] [(.int (1 : Int32))])) _
              refine XS.goto X31.here hx rfl (pc0 := 81) (pc' := 85) rfl (hb hby at_81) (by decide) (by decide) ?_
              show Steps p.tables e below (T31.setTop (mkF m 85 #[.val (.int p1), .val (.int p2), .val (.int p3), .val (.int p1), .val (.int (2147483646 : Int32)), .val (.ref b19), .val (.int (0 : Int32))] [(.int (1 : Int32))])) _
              exact retN X31 hx (t := .boolean) Bd.returns (by simp) (hb hby at_85) hr
            · show own_Q0 Z p1 p2 p3 h0 n0 _ T31.heap _
              rw [e31]
              exact ⟨(by rw [own_f0, if_pos hc1, if_pos hc2, if_neg hc3, if_neg hc7, if_pos hc9]), N32⟩
          ·
            obtain ⟨fs, hr, hrun, hended, hW, hsame⟩ := X31.leave (v := some (.int (0 : Int32))) (fun h => by rw [Bd.returns] at h; cases h)
            refine ⟨_, _, k33 _ ?_, hrun, hended, _, _, rfl, ?_, ⟨_, rfl⟩, hW, hsame.mono (by decide) (by decide)⟩
            · show Steps p.tables e below (T31.setTop (mkF m 77 #[.val (.int p1), .val (.int p2), .val (.int p3), .val (.int p1), .val (.int (2147483646 : Int32)), .val (.ref b19), .val (.int (0 : Int32))] [(.int (0 : Int32)), (.int (own_f4 p1 (2147483646 : Int32)))])) _
              refine XS.icmpYes X31.here hx rfl (pc0 := 77) (pc' := 84) rfl (hb hby at_77) rfl (feq hc9).2 (by decide) (by decide) ?_
              show Steps p.tables e below (T31.setTop (mkF m 84 #[.val (.int p1), .val (.int p2), .val (.int p3), .val (.int p1), .val (.int (2147483646 : Int32)), .val (.ref b19), .val (.int (0 : Int32))] [])) _
              refine XS.iconst X31.here hx rfl (hb hby at_84) ?_
              show Steps p.tables e below (T31.setTop (mkF m 85 #[.val (.int p1), .val (.int p2), .val (.int p3), .val (.int p1), .val (.int (2147483646 : Int32)), .val (.ref b19), .val (.int (0 : Int32))] [(.int (0 : Int32))])) _
              exact retN X31 hx (t := .boolean) Bd.returns (by simp) (hb hby at_85) hr
            · show own_Q0 Z p1 p2 p3 h0 n0 _ T31.heap _
              rw [e31]
              exact ⟨(by rw [own_f0, if_pos hc1, if_pos hc2, if_neg hc3, if_neg hc7, if_neg hc9]), N32⟩
    ·
      obtain ⟨T34, h34, X34, e34, E34, A34, D34, -, st34⟩ := newO X0 hx hZ hown (hw _ (List.mem_of_getElem? (i := 1) rfl)) (hw _ (List.mem_of_getElem? (i := 2) rfl)) (hw _ (List.mem_of_getElem? (i := 3) rfl)) e0 (g := (mkF m 41 #[.val (.int p1), .val (.int p2), .val (.int p3), .val (.int p1), .val (.int (2147483647 : Int32)), .unset, .unset] [])) rfl (hb hby at_41) (by decide) (by decide)
      obtain ⟨b34, g34⟩ : ∃ z, z = h0.size := ⟨_, rfl⟩
      rw [← g34] at A34 D34 st34
      have g_b34 : n0 ≤ b34 := Nat.le_trans Z0 (Nat.le_of_eq g34.symm)
      have Z35 := Nat.le_trans Z0 E34.1
      have F_first_b34 : Fld Z h34 b34 "com/example/fetch_plan/fetchplan/Page" "first" "I" (.int (0 : Int32)) := D34 (Or.inr (hw _ (List.mem_of_getElem? (i := 16) rfl))) (ty := .int) (by decide)
      have F_max_b34 : Fld Z h34 b34 "com/example/fetch_plan/fetchplan/Page" "max" "I" (.int (0 : Int32)) := D34 (Or.inr (hw _ (List.mem_of_getElem? (i := 18) rfl))) (ty := .int) (by decide)
      obtain ⟨v36, _, ⟨T36, L36, k36, n36⟩, -, X36, ⟨Lc36, hQ36, l36, y36, z36⟩, st36⟩ := X34.specialBack hx (y := (⟨"com/example/fetch_plan/fetchplan/Page", "<init>", "(II)V"⟩ : MethodName)) rfl hown (mvT hZ (hw _ (List.mem_of_getElem? (i := 4) rfl))) (mvT hZ (hw _ (List.mem_of_getElem? (i := 5) rfl))) (mvT hZ (hw _ (List.mem_of_getElem? (i := 6) rfl))) (by decide) (backOf (W := 1) (own_rm1 l Z a0 hw [] b34 p1 (2147483647 : Int32) (0 : Int32) (0 : Int32) h34 n0 Z35 A34 F_first_b34 g_b34 F_max_b34) hZ (hw _ (List.mem_of_getElem? (i := 6) rfl)) (hw _ (List.mem_of_getElem? (i := 3) rfl)) (by decide) (by decide)) (g := (mkF m 48 #[.val (.int p1), .val (.int p2), .val (.int p3), .val (.int p1), .val (.int (2147483647 : Int32)), .unset, .unset] [(.int (2147483647 : Int32)), (.int p1), (.ref b34), (.ref b34)])) rfl (by rw [hml]; rfl) (Steps.refl _) (a := b34) (argsL := [(.int p1), (.int (2147483647 : Int32))]) (rest := [(.ref b34)]) (lenOf own_pd26 rfl) rfl (by show 2 * 0 + _ ≤ _; exact Nat.le_of_eq rfl) (hb hby at_48) (fun _ _ => ⟨rfl, e34, (by decide : 1 + 0 ≤ _), (by decide : 2 + 0 ≤ _)⟩)
      dsimp only [Pt.U, Pt.locs, Pt.cells, Pt.slots] at X36 l36 y36 z36 st36 hQ36
      subst l36 y36 z36
      obtain ⟨rfl, N36q, K36, Q36_0, Q36_1, Q36_2⟩ := hQ36
      have f37 := A34.keep K36
      have Z40 := Nat.le_trans Z35 K36.1
      have N41 := Fr.app N0 N36q
      have k42 : ∀ t, Steps p.tables e below (T36.setTop (mkF m 60 #[.val (.int p1), .val (.int p2), .val (.int p3), .val (.int p1), .val (.int (2147483647 : Int32)), .val (.ref b34), .unset] [(.int (p1 ||| (0 : Int32)))])) t → Steps p.tables e below (s₁.setTop (entryFrame m #[(.int p1), (.int p2), (.int p3)] maxLocals)) t := by
        intro t kt
        refine k2 t ?_
        show Steps p.tables e below (s₁.setTop (mkF m 15 #[.val (.int p1), .val (.int p2), .val (.int p3), .val (.int p1), .unset, .unset, .unset] [(.int (p3 &&& (2 : Int32)))])) _
        refine XS.ifNo X0.here hx rfl (hb hby at_15) rfl ((if0 _ _).trans (feq hc2).1) ?_
        show Steps p.tables e below (s₁.setTop (mkF m 18 #[.val (.int p1), .val (.int p2), .val (.int p3), .val (.int p1), .unset, .unset, .unset] [])) _
        refine X0.ldcInt hx hown (mvT hZ (hw _ (List.mem_of_getElem? (i := 0) rfl))) (g := (mkF m 18 #[.val (.int p1), .val (.int p2), .val (.int p3), .val (.int p1), .unset, .unset, .unset] [])) rfl (hb hby at_18) _ ?_
        show Steps p.tables e below (s₁.setTop (mkF m 20 #[.val (.int p1), .val (.int p2), .val (.int p3), .val (.int p1), .unset, .unset, .unset] [(.int (2147483647 : Int32))])) _
        refine XS.istore X0.here hx rfl (hb hby at_20) rfl (l' := #[.val (.int p1), .val (.int p2), .val (.int p3), .val (.int p1), .val (.int (2147483647 : Int32)), .unset, .unset]) rfl ?_
        show Steps p.tables e below (s₁.setTop (mkF m 22 #[.val (.int p1), .val (.int p2), .val (.int p3), .val (.int p1), .val (.int (2147483647 : Int32)), .unset, .unset] [])) _
        refine XS.goto X0.here hx rfl (pc0 := 22) (pc' := 41) rfl (hb hby at_22) (by decide) (by decide) ?_
        show Steps p.tables e below (s₁.setTop (mkF m 41 #[.val (.int p1), .val (.int p2), .val (.int p3), .val (.int p1), .val (.int (2147483647 : Int32)), .unset, .unset] [])) _
        refine st34 _ ?_
        show Steps p.tables e below (T34.setTop (mkF m 44 #[.val (.int p1), .val (.int p2), .val (.int p3), .val (.int p1), .val (.int (2147483647 : Int32)), .unset, .unset] [(.ref b34)])) _
        refine XS.dup X34.here hx rfl (hb hby at_44) rfl rfl ?_
        show Steps p.tables e below (T34.setTop (mkF m 45 #[.val (.int p1), .val (.int p2), .val (.int p3), .val (.int p1), .val (.int (2147483647 : Int32)), .unset, .unset] [(.ref b34), (.ref b34)])) _
        refine XS.iloadN X34.here hx rfl (hb hby at_45) rfl ?_
        show Steps p.tables e below (T34.setTop (mkF m 46 #[.val (.int p1), .val (.int p2), .val (.int p3), .val (.int p1), .val (.int (2147483647 : Int32)), .unset, .unset] [(.int p1), (.ref b34), (.ref b34)])) _
        refine XS.iload X34.here hx rfl (hb hby at_46) rfl ?_
        show Steps p.tables e below (T34.setTop (mkF m 48 #[.val (.int p1), .val (.int p2), .val (.int p3), .val (.int p1), .val (.int (2147483647 : Int32)), .unset, .unset] [(.int (2147483647 : Int32)), (.int p1), (.ref b34), (.ref b34)])) _
        refine st36.trans ?_
        show Steps p.tables e below (T36.setTop (mkF m 51 #[.val (.int p1), .val (.int p2), .val (.int p3), .val (.int p1), .val (.int (2147483647 : Int32)), .unset, .unset] [(.ref b34)])) _
        refine XS.astore X36.here hx rfl (hb hby at_51) rfl rfl (l' := #[.val (.int p1), .val (.int p2), .val (.int p3), .val (.int p1), .val (.int (2147483647 : Int32)), .val (.ref b34), .unset]) rfl ?_
        show Steps p.tables e below (T36.setTop (mkF m 53 #[.val (.int p1), .val (.int p2), .val (.int p3), .val (.int p1), .val (.int (2147483647 : Int32)), .val (.ref b34), .unset] [])) _
        refine XS.iloadN X36.here hx rfl (hb hby at_53) rfl ?_
        show Steps p.tables e below (T36.setTop (mkF m 54 #[.val (.int p1), .val (.int p2), .val (.int p3), .val (.int p1), .val (.int (2147483647 : Int32)), .val (.ref b34), .unset] [(.int p1)])) _
        refine XS.iload X36.here hx rfl (hb hby at_54) rfl ?_
        show Steps p.tables e below (T36.setTop (mkF m 56 #[.val (.int p1), .val (.int p2), .val (.int p3), .val (.int p1), .val (.int (2147483647 : Int32)), .val (.ref b34), .unset] [(.int (2147483647 : Int32)), (.int p1)])) _
        refine X36.ldcInt hx hown (mvT hZ (hw _ (List.mem_of_getElem? (i := 0) rfl))) (g := (mkF m 56 #[.val (.int p1), .val (.int p2), .val (.int p3), .val (.int p1), .val (.int (2147483647 : Int32)), .val (.ref b34), .unset] [(.int (2147483647 : Int32)), (.int p1)])) rfl (hb hby at_56) _ ?_
        show Steps p.tables e below (T36.setTop (mkF m 58 #[.val (.int p1), .val (.int p2), .val (.int p3), .val (.int p1), .val (.int (2147483647 : Int32)), .val (.ref b34), .unset] [(.int (2147483647 : Int32)), (.int (2147483647 : Int32)), (.int p1)])) _
        refine XS.ixor X36.here hx rfl (hb hby at_58) rfl ?_
        show Steps p.tables e below (T36.setTop (mkF m 59 #[.val (.int p1), .val (.int p2), .val (.int p3), .val (.int p1), .val (.int (2147483647 : Int32)), .val (.ref b34), .unset] [(.int (0 : Int32)), (.int p1)])) _
        refine XS.ior X36.here hx rfl (hb hby at_59) rfl ?_
        exact kt
      by_cases hc10 : (p1 ||| (0 : Int32)) = (0 : Int32)
      ·
        obtain ⟨cq43, kq43, q43a, q43b, q43c⟩ := isOf hZ rfl Q36_0
        obtain ⟨v43, _, ⟨T43, L43, k43, n43⟩, -, X43, ⟨Lc43, hQ43, l43, y43, z43⟩, st43⟩ := X36.virtualBack hx (y := (⟨"com/example/fetch_plan/fetchplan/Page", "keepsAll", "()Z"⟩ : MethodName)) (z := (⟨"com/example/fetch_plan/fetchplan/Page", "keepsAll", "()Z"⟩ : MethodName)) hown (mvT hZ (hw _ (List.mem_of_getElem? (i := 19) rfl))) (mvT hZ (hw _ (List.mem_of_getElem? (i := 20) rfl))) (notFace_of_selects (args := #[]) (mvT hZ (hw _ (List.mem_of_getElem? (i := 22) rfl)))) (mvT hZ (hw _ (List.mem_of_getElem? (i := 22) rfl))) (mvT hZ (hw _ (List.mem_of_getElem? (i := 21) rfl))) (by decide) (backOf (W := 0) (own_rm4 l Z a0 hw [] b34 p1 (2147483647 : Int32) T36.heap n0 Z40 Q36_1 Q36_2) hZ (hw _ (List.mem_of_getElem? (i := 23) rfl)) (hw _ (List.mem_of_getElem? (i := 3) rfl)) (by decide) (by decide)) q43a q43c (g := (mkF m 72 #[.val (.int p1), .val (.int p2), .val (.int p3), .val (.int p1), .val (.int (2147483647 : Int32)), .val (.ref b34), .val (.int (1 : Int32))] [(.ref b34)])) rfl (by rw [hml]; rfl) (Steps.refl _) (argsL := []) (rest := []) (lenOf own_pd27 rfl) rfl (by show 2 * 0 + _ ≤ _; exact Nat.le_of_eq rfl) (hb hby at_72) (fun _ _ => ⟨rfl, rfl, (by decide : 1 + 0 ≤ _), (by decide : 2 + 0 ≤ _)⟩)
        dsimp only [Pt.U, Pt.locs, Pt.cells, Pt.slots] at X43 l43 y43 z43 st43 hQ43
        subst l43 y43 z43
        obtain ⟨rfl, N43q, e43⟩ := hQ43
        have N44 := Fr.app N41 N43q
        have k45 : ∀ t, Steps p.tables e below (T43.setTop (mkF m 77 #[.val (.int p1), .val (.int p2), .val (.int p3), .val (.int p1), .val (.int (2147483647 : Int32)), .val (.ref b34), .val (.int (1 : Int32))] [(.int (1 : Int32)), (.int (own_f4 p1 (2147483647 : Int32)))])) t → Steps p.tables e below (s₁.setTop (entryFrame m #[(.int p1), (.int p2), (.int p3)] maxLocals)) t := by
          intro t kt
          refine k42 t ?_
          show Steps p.tables e below (T36.setTop (mkF m 60 #[.val (.int p1), .val (.int p2), .val (.int p3), .val (.int p1), .val (.int (2147483647 : Int32)), .val (.ref b34), .unset] [(.int (p1 ||| (0 : Int32)))])) _
          refine XS.ifNo X36.here hx rfl (hb hby at_60) rfl ((if0 _ _).trans (teq hc10).2) ?_
          show Steps p.tables e below (T36.setTop (mkF m 63 #[.val (.int p1), .val (.int p2), .val (.int p3), .val (.int p1), .val (.int (2147483647 : Int32)), .val (.ref b34), .unset] [])) _
          refine XS.iconst X36.here hx rfl (hb hby at_63) ?_
          show Steps p.tables e below (T36.setTop (mkF m 64 #[.val (.int p1), .val (.int p2), .val (.int p3), .val (.int p1), .val (.int (2147483647 : Int32)), .val (.ref b34), .unset] [(.int (1 : Int32))])) _
          refine XS.goto X36.here hx rfl (pc0 := 64) (pc' := 68) rfl (hb hby at_64) (by decide) (by decide) ?_
          show Steps p.tables e below (T36.setTop (mkF m 68 #[.val (.int p1), .val (.int p2), .val (.int p3), .val (.int p1), .val (.int (2147483647 : Int32)), .val (.ref b34), .unset] [(.int (1 : Int32))])) _
          refine XS.istore X36.here hx rfl (hb hby at_68) rfl (l' := #[.val (.int p1), .val (.int p2), .val (.int p3), .val (.int p1), .val (.int (2147483647 : Int32)), .val (.ref b34), .val (.int (1 : Int32))]) rfl ?_
          show Steps p.tables e below (T36.setTop (mkF m 70 #[.val (.int p1), .val (.int p2), .val (.int p3), .val (.int p1), .val (.int (2147483647 : Int32)), .val (.ref b34), .val (.int (1 : Int32))] [])) _
          refine XS.aload X36.here hx rfl (hb hby at_70) rfl rfl ?_
          show Steps p.tables e below (T36.setTop (mkF m 72 #[.val (.int p1), .val (.int p2), .val (.int p3), .val (.int p1), .val (.int (2147483647 : Int32)), .val (.ref b34), .val (.int (1 : Int32))] [(.ref b34)])) _
          refine st43.trans ?_
          show Steps p.tables e below (T43.setTop (mkF m 75 #[.val (.int p1), .val (.int p2), .val (.int p3), .val (.int p1), .val (.int (2147483647 : Int32)), .val (.ref b34), .val (.int (1 : Int32))] [(.int (own_f4 p1 (2147483647 : Int32)))])) _
          refine XS.iload X43.here hx rfl (hb hby at_75) rfl ?_
          exact kt
        by_cases hc11 : (own_f4 p1 (2147483647 : Int32)) = (1 : Int32)
        ·
          obtain ⟨fs, hr, hrun, hended, hW, hsame⟩ := X43.leave (v := some (.int (1 : Int32))) (fun h => by rw [Bd.returns] at h; cases h)
          refine ⟨_, _, k45 _ ?_, hrun, hended, _, _, rfl, ?_, ⟨_, rfl⟩, hW, hsame.mono (by decide) (by decide)⟩
          · show Steps p.tables e below (T43.setTop (mkF m 77 #[.val (.int p1), .val (.int p2), .val (.int p3), .val (.int p1), .val (.int (2147483647 : Int32)), .val (.ref b34), .val (.int (1 : Int32))] [(.int (1 : Int32)), (.int (own_f4 p1 (2147483647 : Int32)))])) _
            refine XS.icmpNo X43.here hx rfl (hb hby at_77) rfl (teq hc11).2 ?_
            show Steps p.tables e below (T43.setTop (mkF m 80 #[.val (.int p1), .val (.int p2), .val (.int p3), .val (.int p1), .val (.int (2147483647 : Int32)), .val (.ref b34), .val (.int (1 : Int32))] [])) _
            refine XS.iconst X43.here hx rfl (hb hby at_80) ?_
            show Steps p.tables e below (T43.setTop (mkF m 81 #[.val (.int p1), .val (.int p2), .val (.int p3), .val (.int p1), .val (.int (2147483647 : Int32)), .val (.ref b34), .val (.int (1 : Int32))] [(.int (1 : Int32))])) _
            refine XS.goto X43.here hx rfl (pc0 := 81) (pc' := 85) rfl (hb hby at_81) (by decide) (by decide) ?_
            show Steps p.tables e below (T43.setTop (mkF m 85 #[.val (.int p1), .val (.int p2), .val (.int p3), .val (.int p1), .val (.int (2147483647 : Int32)), .val (.ref b34), .val (.int (1 : Int32))] [(.int (1 : Int32))])) _
            exact retN X43 hx (t := .boolean) Bd.returns (by simp) (hb hby at_85) hr
          · show own_Q0 Z p1 p2 p3 h0 n0 _ T43.heap _
            rw [e43]
            exact ⟨(by rw [own_f0, if_pos hc1, if_neg hc2, if_pos hc10, if_pos hc11]), N44⟩
        ·
          obtain ⟨fs, hr, hrun, hended, hW, hsame⟩ := X43.leave (v := some (.int (0 : Int32))) (fun h => by rw [Bd.returns] at h; cases h)
          refine ⟨_, _, k45 _ ?_, hrun, hended, _, _, rfl, ?_, ⟨_, rfl⟩, hW, hsame.mono (by decide) (by decide)⟩
          · show Steps p.tables e below (T43.setTop (mkF m 77 #[.val (.int p1), .val (.int p2), .val (.int p3), .val (.int p1), .val (.int (2147483647 : Int32)), .val (.ref b34), .val (.int (1 : Int32))] [(.int (1 : Int32)), (.int (own_f4 p1 (2147483647 : Int32)))])) _
            refine XS.icmpYes X43.here hx rfl (pc0 := 77) (pc' := 84) rfl (hb hby at_77) rfl (feq hc11).2 (by decide) (by decide) ?_
            show Steps p.tables e below (T43.setTop (mkF m 84 #[.val (.int p1), .val (.int p2), .val (.int p3), .val (.int p1), .val (.int (2147483647 : Int32)), .val (.ref b34), .val (.int (1 : Int32))] [])) _
            refine XS.iconst X43.here hx rfl (hb hby at_84) ?_
            show Steps p.tables e below (T43.setTop (mkF m 85 #[.val (.int p1), .val (.int p2), .val (.int p3), .val (.int p1), .val (.int (2147483647 : Int32)), .val (.ref b34), .val (.int (1 : Int32))] [(.int (0 : Int32))])) _
            exact retN X43 hx (t := .boolean) Bd.returns (by simp) (hb hby at_85) hr
          · show own_Q0 Z p1 p2 p3 h0 n0 _ T43.heap _
            rw [e43]
            exact ⟨(by rw [own_f0, if_pos hc1, if_neg hc2, if_pos hc10, if_neg hc11]), N44⟩
      ·
        obtain ⟨cq46, kq46, q46a, q46b, q46c⟩ := isOf hZ rfl Q36_0
        obtain ⟨v46, _, ⟨T46, L46, k46, n46⟩, -, X46, ⟨Lc46, hQ46, l46, y46, z46⟩, st46⟩ := X36.virtualBack hx (y := (⟨"com/example/fetch_plan/fetchplan/Page", "keepsAll", "()Z"⟩ : MethodName)) (z := (⟨"com/example/fetch_plan/fetchplan/Page", "keepsAll", "()Z"⟩ : MethodName)) hown (mvT hZ (hw _ (List.mem_of_getElem? (i := 19) rfl))) (mvT hZ (hw _ (List.mem_of_getElem? (i := 20) rfl))) (notFace_of_selects (args := #[]) (mvT hZ (hw _ (List.mem_of_getElem? (i := 22) rfl)))) (mvT hZ (hw _ (List.mem_of_getElem? (i := 22) rfl))) (mvT hZ (hw _ (List.mem_of_getElem? (i := 21) rfl))) (by decide) (backOf (W := 0) (own_rm4 l Z a0 hw [] b34 p1 (2147483647 : Int32) T36.heap n0 Z40 Q36_1 Q36_2) hZ (hw _ (List.mem_of_getElem? (i := 23) rfl)) (hw _ (List.mem_of_getElem? (i := 3) rfl)) (by decide) (by decide)) q46a q46c (g := (mkF m 72 #[.val (.int p1), .val (.int p2), .val (.int p3), .val (.int p1), .val (.int (2147483647 : Int32)), .val (.ref b34), .val (.int (0 : Int32))] [(.ref b34)])) rfl (by rw [hml]; rfl) (Steps.refl _) (argsL := []) (rest := []) (lenOf own_pd27 rfl) rfl (by show 2 * 0 + _ ≤ _; exact Nat.le_of_eq rfl) (hb hby at_72) (fun _ _ => ⟨rfl, rfl, (by decide : 1 + 0 ≤ _), (by decide : 2 + 0 ≤ _)⟩)
        dsimp only [Pt.U, Pt.locs, Pt.cells, Pt.slots] at X46 l46 y46 z46 st46 hQ46
        subst l46 y46 z46
        obtain ⟨rfl, N46q, e46⟩ := hQ46
        have N47 := Fr.app N41 N46q
        have k48 : ∀ t, Steps p.tables e below (T46.setTop (mkF m 77 #[.val (.int p1), .val (.int p2), .val (.int p3), .val (.int p1), .val (.int (2147483647 : Int32)), .val (.ref b34), .val (.int (0 : Int32))] [(.int (0 : Int32)), (.int (own_f4 p1 (2147483647 : Int32)))])) t → Steps p.tables e below (s₁.setTop (entryFrame m #[(.int p1), (.int p2), (.int p3)] maxLocals)) t := by
          intro t kt
          refine k42 t ?_
          show Steps p.tables e below (T36.setTop (mkF m 60 #[.val (.int p1), .val (.int p2), .val (.int p3), .val (.int p1), .val (.int (2147483647 : Int32)), .val (.ref b34), .unset] [(.int (p1 ||| (0 : Int32)))])) _
          refine XS.ifYes X36.here hx rfl (pc0 := 60) (pc' := 67) rfl (hb hby at_60) rfl ((if0 _ _).trans (feq hc10).2) (by decide) (by decide) ?_
          show Steps p.tables e below (T36.setTop (mkF m 67 #[.val (.int p1), .val (.int p2), .val (.int p3), .val (.int p1), .val (.int (2147483647 : Int32)), .val (.ref b34), .unset] [])) _
          refine XS.iconst X36.here hx rfl (hb hby at_67) ?_
          show Steps p.tables e below (T36.setTop (mkF m 68 #[.val (.int p1), .val (.int p2), .val (.int p3), .val (.int p1), .val (.int (2147483647 : Int32)), .val (.ref b34), .unset] [(.int (0 : Int32))])) _
          refine XS.istore X36.here hx rfl (hb hby at_68) rfl (l' := #[.val (.int p1), .val (.int p2), .val (.int p3), .val (.int p1), .val (.int (2147483647 : Int32)), .val (.ref b34), .val (.int (0 : Int32))]) rfl ?_
          show Steps p.tables e below (T36.setTop (mkF m 70 #[.val (.int p1), .val (.int p2), .val (.int p3), .val (.int p1), .val (.int (2147483647 : Int32)), .val (.ref b34), .val (.int (0 : Int32))] [])) _
          refine XS.aload X36.here hx rfl (hb hby at_70) rfl rfl ?_
          show Steps p.tables e below (T36.setTop (mkF m 72 #[.val (.int p1), .val (.int p2), .val (.int p3), .val (.int p1), .val (.int (2147483647 : Int32)), .val (.ref b34), .val (.int (0 : Int32))] [(.ref b34)])) _
          refine st46.trans ?_
          show Steps p.tables e below (T46.setTop (mkF m 75 #[.val (.int p1), .val (.int p2), .val (.int p3), .val (.int p1), .val (.int (2147483647 : Int32)), .val (.ref b34), .val (.int (0 : Int32))] [(.int (own_f4 p1 (2147483647 : Int32)))])) _
          refine XS.iload X46.here hx rfl (hb hby at_75) rfl ?_
          exact kt
        by_cases hc12 : (own_f4 p1 (2147483647 : Int32)) = (0 : Int32)
        ·
          obtain ⟨fs, hr, hrun, hended, hW, hsame⟩ := X46.leave (v := some (.int (1 : Int32))) (fun h => by rw [Bd.returns] at h; cases h)
          refine ⟨_, _, k48 _ ?_, hrun, hended, _, _, rfl, ?_, ⟨_, rfl⟩, hW, hsame.mono (by decide) (by decide)⟩
          · show Steps p.tables e below (T46.setTop (mkF m 77 #[.val (.int p1), .val (.int p2), .val (.int p3), .val (.int p1), .val (.int (2147483647 : Int32)), .val (.ref b34), .val (.int (0 : Int32))] [(.int (0 : Int32)), (.int (own_f4 p1 (2147483647 : Int32)))])) _
            refine XS.icmpNo X46.here hx rfl (hb hby at_77) rfl (teq hc12).2 ?_
            show Steps p.tables e below (T46.setTop (mkF m 80 #[.val (.int p1), .val (.int p2), .val (.int p3), .val (.int p1), .val (.int (2147483647 : Int32)), .val (.ref b34), .val (.int (0 : Int32))] [])) _
            refine XS.iconst X46.here hx rfl (hb hby at_80) ?_
            show Steps p.tables e below (T46.setTop (mkF m 81 #[.val (.int p1), .val (.int p2), .val (.int p3), .val (.int p1), .val (.int (2147483647 : Int32)), .val (.ref b34), .val (.int (0 : Int32))] [(.int (1 : Int32))])) _
            refine XS.goto X46.here hx rfl (pc0 := 81) (pc' := 85) rfl (hb hby at_81) (by decide) (by decide) ?_
            show Steps p.tables e below (T46.setTop (mkF m 85 #[.val (.int p1), .val (.int p2), .val (.int p3), .val (.int p1), .val (.int (2147483647 : Int32)), .val (.ref b34), .val (.int (0 : Int32))] [(.int (1 : Int32))])) _
            exact retN X46 hx (t := .boolean) Bd.returns (by simp) (hb hby at_85) hr
          · show own_Q0 Z p1 p2 p3 h0 n0 _ T46.heap _
            rw [e46]
            exact ⟨(by rw [own_f0, if_pos hc1, if_neg hc2, if_neg hc10, if_pos hc12]), N47⟩
        ·
          obtain ⟨fs, hr, hrun, hended, hW, hsame⟩ := X46.leave (v := some (.int (0 : Int32))) (fun h => by rw [Bd.returns] at h; cases h)
          refine ⟨_, _, k48 _ ?_, hrun, hended, _, _, rfl, ?_, ⟨_, rfl⟩, hW, hsame.mono (by decide) (by decide)⟩
          · show Steps p.tables e below (T46.setTop (mkF m 77 #[.val (.int p1), .val (.int p2), .val (.int p3), .val (.int p1), .val (.int (2147483647 : Int32)), .val (.ref b34), .val (.int (0 : Int32))] [(.int (0 : Int32)), (.int (own_f4 p1 (2147483647 : Int32)))])) _
            refine XS.icmpYes X46.here hx rfl (pc0 := 77) (pc' := 84) rfl (hb hby at_77) rfl (feq hc12).2 (by decide) (by decide) ?_
            show Steps p.tables e below (T46.setTop (mkF m 84 #[.val (.int p1), .val (.int p2), .val (.int p3), .val (.int p1), .val (.int (2147483647 : Int32)), .val (.ref b34), .val (.int (0 : Int32))] [])) _
            refine XS.iconst X46.here hx rfl (hb hby at_84) ?_
            show Steps p.tables e below (T46.setTop (mkF m 85 #[.val (.int p1), .val (.int p2), .val (.int p3), .val (.int p1), .val (.int (2147483647 : Int32)), .val (.ref b34), .val (.int (0 : Int32))] [(.int (0 : Int32))])) _
            exact retN X46 hx (t := .boolean) Bd.returns (by simp) (hb hby at_85) hr
          · show own_Q0 Z p1 p2 p3 h0 n0 _ T46.heap _
            rw [e46]
            exact ⟨(by rw [own_f0, if_pos hc1, if_neg hc2, if_neg hc10, if_neg hc12]), N47⟩
  ·
    have k49 : ∀ t, Steps p.tables e below (s₁.setTop (mkF m 15 #[.val (.int p1), .val (.int p2), .val (.int p3), .val (.int (0 : Int32)), .unset, .unset, .unset] [(.int (p3 &&& (2 : Int32)))])) t → Steps p.tables e below (s₁.setTop (entryFrame m #[(.int p1), (.int p2), (.int p3)] maxLocals)) t := by
      intro t kt
      refine k1 t ?_
      show Steps p.tables e below (s₁.setTop (mkF m 3 #[.val (.int p1), .val (.int p2), .val (.int p3), .unset, .unset, .unset, .unset] [(.int (p3 &&& (1 : Int32)))])) _
      refine XS.ifNo X0.here hx rfl (hb hby at_3) rfl ((if0 _ _).trans (feq hc1).1) ?_
      show Steps p.tables e below (s₁.setTop (mkF m 6 #[.val (.int p1), .val (.int p2), .val (.int p3), .unset, .unset, .unset, .unset] [])) _
      refine XS.iconst X0.here hx rfl (hb hby at_6) ?_
      show Steps p.tables e below (s₁.setTop (mkF m 7 #[.val (.int p1), .val (.int p2), .val (.int p3), .unset, .unset, .unset, .unset] [(.int (0 : Int32))])) _
      refine XS.goto X0.here hx rfl (pc0 := 7) (pc' := 11) rfl (hb hby at_7) (by decide) (by decide) ?_
      show Steps p.tables e below (s₁.setTop (mkF m 11 #[.val (.int p1), .val (.int p2), .val (.int p3), .unset, .unset, .unset, .unset] [(.int (0 : Int32))])) _
      refine XS.istoreN X0.here hx rfl (hb hby at_11) rfl (l' := #[.val (.int p1), .val (.int p2), .val (.int p3), .val (.int (0 : Int32)), .unset, .unset, .unset]) rfl ?_
      show Steps p.tables e below (s₁.setTop (mkF m 12 #[.val (.int p1), .val (.int p2), .val (.int p3), .val (.int (0 : Int32)), .unset, .unset, .unset] [])) _
      refine XS.iloadN X0.here hx rfl (hb hby at_12) rfl ?_
      show Steps p.tables e below (s₁.setTop (mkF m 13 #[.val (.int p1), .val (.int p2), .val (.int p3), .val (.int (0 : Int32)), .unset, .unset, .unset] [(.int p3)])) _
      refine XS.iconst X0.here hx rfl (hb hby at_13) ?_
      show Steps p.tables e below (s₁.setTop (mkF m 14 #[.val (.int p1), .val (.int p2), .val (.int p3), .val (.int (0 : Int32)), .unset, .unset, .unset] [(.int (2 : Int32)), (.int p3)])) _
      refine XS.iand X0.here hx rfl (hb hby at_14) rfl ?_
      exact kt
    by_cases hc13 : (p3 &&& (2 : Int32)) = (0 : Int32)
    ·
      have k50 : ∀ t, Steps p.tables e below (s₁.setTop (mkF m 28 #[.val (.int p1), .val (.int p2), .val (.int p3), .val (.int (0 : Int32)), .unset, .unset, .unset] [(.int (p3 &&& (4 : Int32)))])) t → Steps p.tables e below (s₁.setTop (entryFrame m #[(.int p1), (.int p2), (.int p3)] maxLocals)) t := by
        intro t kt
        refine k49 t ?_
        show Steps p.tables e below (s₁.setTop (mkF m 15 #[.val (.int p1), .val (.int p2), .val (.int p3), .val (.int (0 : Int32)), .unset, .unset, .unset] [(.int (p3 &&& (2 : Int32)))])) _
        refine XS.ifYes X0.here hx rfl (pc0 := 15) (pc' := 25) rfl (hb hby at_15) rfl ((if0 _ _).trans (teq hc13).1) (by decide) (by decide) ?_
        show Steps p.tables e below (s₁.setTop (mkF m 25 #[.val (.int p1), .val (.int p2), .val (.int p3), .val (.int (0 : Int32)), .unset, .unset, .unset] [])) _
        refine XS.iloadN X0.here hx rfl (hb hby at_25) rfl ?_
        show Steps p.tables e below (s₁.setTop (mkF m 26 #[.val (.int p1), .val (.int p2), .val (.int p3), .val (.int (0 : Int32)), .unset, .unset, .unset] [(.int p3)])) _
        refine XS.iconst X0.here hx rfl (hb hby at_26) ?_
        show Steps p.tables e below (s₁.setTop (mkF m 27 #[.val (.int p1), .val (.int p2), .val (.int p3), .val (.int (0 : Int32)), .unset, .unset, .unset] [(.int (4 : Int32)), (.int p3)])) _
        refine XS.iand X0.here hx rfl (hb hby at_27) rfl ?_
        exact kt
      by_cases hc14 : (p3 &&& (4 : Int32)) = (0 : Int32)
      ·
        obtain ⟨T51, h51, X51, e51, E51, A51, D51, -, st51⟩ := newO X0 hx hZ hown (hw _ (List.mem_of_getElem? (i := 1) rfl)) (hw _ (List.mem_of_getElem? (i := 2) rfl)) (hw _ (List.mem_of_getElem? (i := 3) rfl)) e0 (g := (mkF m 41 #[.val (.int p1), .val (.int p2), .val (.int p3), .val (.int (0 : Int32)), .val (.int p2), .unset, .unset] [])) rfl (hb hby at_41) (by decide) (by decide)
        obtain ⟨b51, g51⟩ : ∃ z, z = h0.size := ⟨_, rfl⟩
        rw [← g51] at A51 D51 st51
        have g_b51 : n0 ≤ b51 := Nat.le_trans Z0 (Nat.le_of_eq g51.symm)
        have Z52 := Nat.le_trans Z0 E51.1
        have F_first_b51 : Fld Z h51 b51 "com/example/fetch_plan/fetchplan/Page" "first" "I" (.int (0 : Int32)) := D51 (Or.inr (hw _ (List.mem_of_getElem? (i := 16) rfl))) (ty := .int) (by decide)
        have F_max_b51 : Fld Z h51 b51 "com/example/fetch_plan/fetchplan/Page" "max" "I" (.int (0 : Int32)) := D51 (Or.inr (hw _ (List.mem_of_getElem? (i := 18) rfl))) (ty := .int) (by decide)
        obtain ⟨v53, _, ⟨T53, L53, k53, n53⟩, -, X53, ⟨Lc53, hQ53, l53, y53, z53⟩, st53⟩ := X51.specialBack hx (y := (⟨"com/example/fetch_plan/fetchplan/Page", "<init>", "(II)V"⟩ : MethodName)) rfl hown (mvT hZ (hw _ (List.mem_of_getElem? (i := 4) rfl))) (mvT hZ (hw _ (List.mem_of_getElem? (i := 5) rfl))) (mvT hZ (hw _ (List.mem_of_getElem? (i := 6) rfl))) (by decide) (backOf (W := 1) (own_rm1 l Z a0 hw [] b51 (0 : Int32) p2 (0 : Int32) (0 : Int32) h51 n0 Z52 A51 F_first_b51 g_b51 F_max_b51) hZ (hw _ (List.mem_of_getElem? (i := 6) rfl)) (hw _ (List.mem_of_getElem? (i := 3) rfl)) (by decide) (by decide)) (g := (mkF m 48 #[.val (.int p1), .val (.int p2), .val (.int p3), .val (.int (0 : Int32)), .val (.int p2), .unset, .unset] [(.int p2), (.int (0 : Int32)), (.ref b51), (.ref b51)])) rfl (by rw [hml]; rfl) (Steps.refl _) (a := b51) (argsL := [(.int (0 : Int32)), (.int p2)]) (rest := [(.ref b51)]) (lenOf own_pd26 rfl) rfl (by show 2 * 0 + _ ≤ _; exact Nat.le_of_eq rfl) (hb hby at_48) (fun _ _ => ⟨rfl, e51, (by decide : 1 + 0 ≤ _), (by decide : 2 + 0 ≤ _)⟩)
        dsimp only [Pt.U, Pt.locs, Pt.cells, Pt.slots] at X53 l53 y53 z53 st53 hQ53
        subst l53 y53 z53
        obtain ⟨rfl, N53q, K53, Q53_0, Q53_1, Q53_2⟩ := hQ53
        have f54 := A51.keep K53
        have Z57 := Nat.le_trans Z52 K53.1
        have N58 := Fr.app N0 N53q
        have k59 : ∀ t, Steps p.tables e below (T53.setTop (mkF m 60 #[.val (.int p1), .val (.int p2), .val (.int p3), .val (.int (0 : Int32)), .val (.int p2), .val (.ref b51), .unset] [(.int ((0 : Int32) ||| (p2 ^^^ (2147483647 : Int32))))])) t → Steps p.tables e below (s₁.setTop (entryFrame m #[(.int p1), (.int p2), (.int p3)] maxLocals)) t := by
          intro t kt
          refine k50 t ?_
          show Steps p.tables e below (s₁.setTop (mkF m 28 #[.val (.int p1), .val (.int p2), .val (.int p3), .val (.int (0 : Int32)), .unset, .unset, .unset] [(.int (p3 &&& (4 : Int32)))])) _
          refine XS.ifYes X0.here hx rfl (pc0 := 28) (pc' := 38) rfl (hb hby at_28) rfl ((if0 _ _).trans (teq hc14).1) (by decide) (by decide) ?_
          show Steps p.tables e below (s₁.setTop (mkF m 38 #[.val (.int p1), .val (.int p2), .val (.int p3), .val (.int (0 : Int32)), .unset, .unset, .unset] [])) _
          refine XS.iloadN X0.here hx rfl (hb hby at_38) rfl ?_
          show Steps p.tables e below (s₁.setTop (mkF m 39 #[.val (.int p1), .val (.int p2), .val (.int p3), .val (.int (0 : Int32)), .unset, .unset, .unset] [(.int p2)])) _
          refine XS.istore X0.here hx rfl (hb hby at_39) rfl (l' := #[.val (.int p1), .val (.int p2), .val (.int p3), .val (.int (0 : Int32)), .val (.int p2), .unset, .unset]) rfl ?_
          show Steps p.tables e below (s₁.setTop (mkF m 41 #[.val (.int p1), .val (.int p2), .val (.int p3), .val (.int (0 : Int32)), .val (.int p2), .unset, .unset] [])) _
          refine st51 _ ?_
          show Steps p.tables e below (T51.setTop (mkF m 44 #[.val (.int p1), .val (.int p2), .val (.int p3), .val (.int (0 : Int32)), .val (.int p2), .unset, .unset] [(.ref b51)])) _
          refine XS.dup X51.here hx rfl (hb hby at_44) rfl rfl ?_
          show Steps p.tables e below (T51.setTop (mkF m 45 #[.val (.int p1), .val (.int p2), .val (.int p3), .val (.int (0 : Int32)), .val (.int p2), .unset, .unset] [(.ref b51), (.ref b51)])) _
          refine XS.iloadN X51.here hx rfl (hb hby at_45) rfl ?_
          show Steps p.tables e below (T51.setTop (mkF m 46 #[.val (.int p1), .val (.int p2), .val (.int p3), .val (.int (0 : Int32)), .val (.int p2), .unset, .unset] [(.int (0 : Int32)), (.ref b51), (.ref b51)])) _
          refine XS.iload X51.here hx rfl (hb hby at_46) rfl ?_
          show Steps p.tables e below (T51.setTop (mkF m 48 #[.val (.int p1), .val (.int p2), .val (.int p3), .val (.int (0 : Int32)), .val (.int p2), .unset, .unset] [(.int p2), (.int (0 : Int32)), (.ref b51), (.ref b51)])) _
          refine st53.trans ?_
          show Steps p.tables e below (T53.setTop (mkF m 51 #[.val (.int p1), .val (.int p2), .val (.int p3), .val (.int (0 : Int32)), .val (.int p2), .unset, .unset] [(.ref b51)])) _
          refine XS.astore X53.here hx rfl (hb hby at_51) rfl rfl (l' := #[.val (.int p1), .val (.int p2), .val (.int p3), .val (.int (0 : Int32)), .val (.int p2), .val (.ref b51), .unset]) rfl ?_
          show Steps p.tables e below (T53.setTop (mkF m 53 #[.val (.int p1), .val (.int p2), .val (.int p3), .val (.int (0 : Int32)), .val (.int p2), .val (.ref b51), .unset] [])) _
          refine XS.iloadN X53.here hx rfl (hb hby at_53) rfl ?_
          show Steps p.tables e below (T53.setTop (mkF m 54 #[.val (.int p1), .val (.int p2), .val (.int p3), .val (.int (0 : Int32)), .val (.int p2), .val (.ref b51), .unset] [(.int (0 : Int32))])) _
          refine XS.iload X53.here hx rfl (hb hby at_54) rfl ?_
          show Steps p.tables e below (T53.setTop (mkF m 56 #[.val (.int p1), .val (.int p2), .val (.int p3), .val (.int (0 : Int32)), .val (.int p2), .val (.ref b51), .unset] [(.int p2), (.int (0 : Int32))])) _
          refine X53.ldcInt hx hown (mvT hZ (hw _ (List.mem_of_getElem? (i := 0) rfl))) (g := (mkF m 56 #[.val (.int p1), .val (.int p2), .val (.int p3), .val (.int (0 : Int32)), .val (.int p2), .val (.ref b51), .unset] [(.int p2), (.int (0 : Int32))])) rfl (hb hby at_56) _ ?_
          show Steps p.tables e below (T53.setTop (mkF m 58 #[.val (.int p1), .val (.int p2), .val (.int p3), .val (.int (0 : Int32)), .val (.int p2), .val (.ref b51), .unset] [(.int (2147483647 : Int32)), (.int p2), (.int (0 : Int32))])) _
          refine XS.ixor X53.here hx rfl (hb hby at_58) rfl ?_
          show Steps p.tables e below (T53.setTop (mkF m 59 #[.val (.int p1), .val (.int p2), .val (.int p3), .val (.int (0 : Int32)), .val (.int p2), .val (.ref b51), .unset] [(.int (p2 ^^^ (2147483647 : Int32))), (.int (0 : Int32))])) _
          refine XS.ior X53.here hx rfl (hb hby at_59) rfl ?_
          exact kt
        by_cases hc15 : ((0 : Int32) ||| (p2 ^^^ (2147483647 : Int32))) = (0 : Int32)
        ·
          obtain ⟨cq60, kq60, q60a, q60b, q60c⟩ := isOf hZ rfl Q53_0
          obtain ⟨v60, _, ⟨T60, L60, k60, n60⟩, -, X60, ⟨Lc60, hQ60, l60, y60, z60⟩, st60⟩ := X53.virtualBack hx (y := (⟨"com/example/fetch_plan/fetchplan/Page", "keepsAll", "()Z"⟩ : MethodName)) (z := (⟨"com/example/fetch_plan/fetchplan/Page", "keepsAll", "()Z"⟩ : MethodName)) hown (mvT hZ (hw _ (List.mem_of_getElem? (i := 19) rfl))) (mvT hZ (hw _ (List.mem_of_getElem? (i := 20) rfl))) (notFace_of_selects (args := #[]) (mvT hZ (hw _ (List.mem_of_getElem? (i := 22) rfl)))) (mvT hZ (hw _ (List.mem_of_getElem? (i := 22) rfl))) (mvT hZ (hw _ (List.mem_of_getElem? (i := 21) rfl))) (by decide) (backOf (W := 0) (own_rm4 l Z a0 hw [] b51 (0 : Int32) p2 T53.heap n0 Z57 Q53_1 Q53_2) hZ (hw _ (List.mem_of_getElem? (i := 23) rfl)) (hw _ (List.mem_of_getElem? (i := 3) rfl)) (by decide) (by decide)) q60a q60c (g := (mkF m 72 #[.val (.int p1), .val (.int p2), .val (.int p3), .val (.int (0 : Int32)), .val (.int p2), .val (.ref b51), .val (.int (1 : Int32))] [(.ref b51)])) rfl (by rw [hml]; rfl) (Steps.refl _) (argsL := []) (rest := []) (lenOf own_pd27 rfl) rfl (by show 2 * 0 + _ ≤ _; exact Nat.le_of_eq rfl) (hb hby at_72) (fun _ _ => ⟨rfl, rfl, (by decide : 1 + 0 ≤ _), (by decide : 2 + 0 ≤ _)⟩)
          dsimp only [Pt.U, Pt.locs, Pt.cells, Pt.slots] at X60 l60 y60 z60 st60 hQ60
          subst l60 y60 z60
          obtain ⟨rfl, N60q, e60⟩ := hQ60
          have N61 := Fr.app N58 N60q
          have k62 : ∀ t, Steps p.tables e below (T60.setTop (mkF m 77 #[.val (.int p1), .val (.int p2), .val (.int p3), .val (.int (0 : Int32)), .val (.int p2), .val (.ref b51), .val (.int (1 : Int32))] [(.int (1 : Int32)), (.int (own_f4 (0 : Int32) p2))])) t → Steps p.tables e below (s₁.setTop (entryFrame m #[(.int p1), (.int p2), (.int p3)] maxLocals)) t := by
            intro t kt
            refine k59 t ?_
            show Steps p.tables e below (T53.setTop (mkF m 60 #[.val (.int p1), .val (.int p2), .val (.int p3), .val (.int (0 : Int32)), .val (.int p2), .val (.ref b51), .unset] [(.int ((0 : Int32) ||| (p2 ^^^ (2147483647 : Int32))))])) _
            refine XS.ifNo X53.here hx rfl (hb hby at_60) rfl ((if0 _ _).trans (teq hc15).2) ?_
            show Steps p.tables e below (T53.setTop (mkF m 63 #[.val (.int p1), .val (.int p2), .val (.int p3), .val (.int (0 : Int32)), .val (.int p2), .val (.ref b51), .unset] [])) _
            refine XS.iconst X53.here hx rfl (hb hby at_63) ?_
            show Steps p.tables e below (T53.setTop (mkF m 64 #[.val (.int p1), .val (.int p2), .val (.int p3), .val (.int (0 : Int32)), .val (.int p2), .val (.ref b51), .unset] [(.int (1 : Int32))])) _
            refine XS.goto X53.here hx rfl (pc0 := 64) (pc' := 68) rfl (hb hby at_64) (by decide) (by decide) ?_
            show Steps p.tables e below (T53.setTop (mkF m 68 #[.val (.int p1), .val (.int p2), .val (.int p3), .val (.int (0 : Int32)), .val (.int p2), .val (.ref b51), .unset] [(.int (1 : Int32))])) _
            refine XS.istore X53.here hx rfl (hb hby at_68) rfl (l' := #[.val (.int p1), .val (.int p2), .val (.int p3), .val (.int (0 : Int32)), .val (.int p2), .val (.ref b51), .val (.int (1 : Int32))]) rfl ?_
            show Steps p.tables e below (T53.setTop (mkF m 70 #[.val (.int p1), .val (.int p2), .val (.int p3), .val (.int (0 : Int32)), .val (.int p2), .val (.ref b51), .val (.int (1 : Int32))] [])) _
            refine XS.aload X53.here hx rfl (hb hby at_70) rfl rfl ?_
            show Steps p.tables e below (T53.setTop (mkF m 72 #[.val (.int p1), .val (.int p2), .val (.int p3), .val (.int (0 : Int32)), .val (.int p2), .val (.ref b51), .val (.int (1 : Int32))] [(.ref b51)])) _
            refine st60.trans ?_
            show Steps p.tables e below (T60.setTop (mkF m 75 #[.val (.int p1), .val (.int p2), .val (.int p3), .val (.int (0 : Int32)), .val (.int p2), .val (.ref b51), .val (.int (1 : Int32))] [(.int (own_f4 (0 : Int32) p2))])) _
            refine XS.iload X60.here hx rfl (hb hby at_75) rfl ?_
            exact kt
          by_cases hc16 : (own_f4 (0 : Int32) p2) = (1 : Int32)
          ·
            obtain ⟨fs, hr, hrun, hended, hW, hsame⟩ := X60.leave (v := some (.int (1 : Int32))) (fun h => by rw [Bd.returns] at h; cases h)
            refine ⟨_, _, k62 _ ?_, hrun, hended, _, _, rfl, ?_, ⟨_, rfl⟩, hW, hsame.mono (by decide) (by decide)⟩
            · show Steps p.tables e below (T60.setTop (mkF m 77 #[.val (.int p1), .val (.int p2), .val (.int p3), .val (.int (0 : Int32)), .val (.int p2), .val (.ref b51), .val (.int (1 : Int32))] [(.int (1 : Int32)), (.int (own_f4 (0 : Int32) p2))])) _
              refine XS.icmpNo X60.here hx rfl (hb hby at_77) rfl (teq hc16).2 ?_
              show Steps p.tables e below (T60.setTop (mkF m 80 #[.val (.int p1), .val (.int p2), .val (.int p3), .val (.int (0 : Int32)), .val (.int p2), .val (.ref b51), .val (.int (1 : Int32))] [])) _
              refine XS.iconst X60.here hx rfl (hb hby at_80) ?_
              show Steps p.tables e below (T60.setTop (mkF m 81 #[.val (.int p1), .val (.int p2), .val (.int p3), .val (.int (0 : Int32)), .val (.int p2), .val (.ref b51), .val (.int (1 : Int32))] [(.int (1 : Int32))])) _
              refine XS.goto X60.here hx rfl (pc0 := 81) (pc' := 85) rfl (hb hby at_81) (by decide) (by decide) ?_
              show Steps p.tables e below (T60.setTop (mkF m 85 #[.val (.int p1), .val (.int p2), .val (.int p3), .val (.int (0 : Int32)), .val (.int p2), .val (.ref b51), .val (.int (1 : Int32))] [(.int (1 : Int32))])) _
              exact retN X60 hx (t := .boolean) Bd.returns (by simp) (hb hby at_85) hr
            · show own_Q0 Z p1 p2 p3 h0 n0 _ T60.heap _
              rw [e60]
              exact ⟨(by rw [own_f0, if_neg hc1, if_pos hc13, if_pos hc14, if_pos hc15, if_pos hc16]), N61⟩
          ·
            obtain ⟨fs, hr, hrun, hended, hW, hsame⟩ := X60.leave (v := some (.int (0 : Int32))) (fun h => by rw [Bd.returns] at h; cases h)
            refine ⟨_, _, k62 _ ?_, hrun, hended, _, _, rfl, ?_, ⟨_, rfl⟩, hW, hsame.mono (by decide) (by decide)⟩
            · show Steps p.tables e below (T60.setTop (mkF m 77 #[.val (.int p1), .val (.int p2), .val (.int p3), .val (.int (0 : Int32)), .val (.int p2), .val (.ref b51), .val (.int (1 : Int32))] [(.int (1 : Int32)), (.int (own_f4 (0 : Int32) p2))])) _
              refine XS.icmpYes X60.here hx rfl (pc0 := 77) (pc' := 84) rfl (hb hby at_77) rfl (feq hc16).2 (by decide) (by decide) ?_
              show Steps p.tables e below (T60.setTop (mkF m 84 #[.val (.int p1), .val (.int p2), .val (.int p3), .val (.int (0 : Int32)), .val (.int p2), .val (.ref b51), .val (.int (1 : Int32))] [])) _
              refine XS.iconst X60.here hx rfl (hb hby at_84) ?_
              show Steps p.tables e below (T60.setTop (mkF m 85 #[.val (.int p1), .val (.int p2), .val (.int p3), .val (.int (0 : Int32)), .val (.int p2), .val (.ref b51), .val (.int (1 : Int32))] [(.int (0 : Int32))])) _
              exact retN X60 hx (t := .boolean) Bd.returns (by simp) (hb hby at_85) hr
            · show own_Q0 Z p1 p2 p3 h0 n0 _ T60.heap _
              rw [e60]
              exact ⟨(by rw [own_f0, if_neg hc1, if_pos hc13, if_pos hc14, if_pos hc15, if_neg hc16]), N61⟩
        ·
          obtain ⟨cq63, kq63, q63a, q63b, q63c⟩ := isOf hZ rfl Q53_0
          obtain ⟨v63, _, ⟨T63, L63, k63, n63⟩, -, X63, ⟨Lc63, hQ63, l63, y63, z63⟩, st63⟩ := X53.virtualBack hx (y := (⟨"com/example/fetch_plan/fetchplan/Page", "keepsAll", "()Z"⟩ : MethodName)) (z := (⟨"com/example/fetch_plan/fetchplan/Page", "keepsAll", "()Z"⟩ : MethodName)) hown (mvT hZ (hw _ (List.mem_of_getElem? (i := 19) rfl))) (mvT hZ (hw _ (List.mem_of_getElem? (i := 20) rfl))) (notFace_of_selects (args := #[]) (mvT hZ (hw _ (List.mem_of_getElem? (i := 22) rfl)))) (mvT hZ (hw _ (List.mem_of_getElem? (i := 22) rfl))) (mvT hZ (hw _ (List.mem_of_getElem? (i := 21) rfl))) (by decide) (backOf (W := 0) (own_rm4 l Z a0 hw [] b51 (0 : Int32) p2 T53.heap n0 Z57 Q53_1 Q53_2) hZ (hw _ (List.mem_of_getElem? (i := 23) rfl)) (hw _ (List.mem_of_getElem? (i := 3) rfl)) (by decide) (by decide)) q63a q63c (g := (mkF m 72 #[.val (.int p1), .val (.int p2), .val (.int p3), .val (.int (0 : Int32)), .val (.int p2), .val (.ref b51), .val (.int (0 : Int32))] [(.ref b51)])) rfl (by rw [hml]; rfl) (Steps.refl _) (argsL := []) (rest := []) (lenOf own_pd27 rfl) rfl (by show 2 * 0 + _ ≤ _; exact Nat.le_of_eq rfl) (hb hby at_72) (fun _ _ => ⟨rfl, rfl, (by decide : 1 + 0 ≤ _), (by decide : 2 + 0 ≤ _)⟩)
          dsimp only [Pt.U, Pt.locs, Pt.cells, Pt.slots] at X63 l63 y63 z63 st63 hQ63
          subst l63 y63 z63
          obtain ⟨rfl, N63q, e63⟩ := hQ63
          have N64 := Fr.app N58 N63q
          have k65 : ∀ t, Steps p.tables e below (T63.setTop (mkF m 77 #[.val (.int p1), .val (.int p2), .val (.int p3), .val (.int (0 : Int32)), .val (.int p2), .val (.ref b51), .val (.int (0 : Int32))] [(.int (0 : Int32)), (.int (own_f4 (0 : Int32) p2))])) t → Steps p.tables e below (s₁.setTop (entryFrame m #[(.int p1), (.int p2), (.int p3)] maxLocals)) t := by
            intro t kt
            refine k59 t ?_
            show Steps p.tables e below (T53.setTop (mkF m 60 #[.val (.int p1), .val (.int p2), .val (.int p3), .val (.int (0 : Int32)), .val (.int p2), .val (.ref b51), .unset] [(.int ((0 : Int32) ||| (p2 ^^^ (2147483647 : Int32))))])) _
            refine XS.ifYes X53.here hx rfl (pc0 := 60) (pc' := 67) rfl (hb hby at_60) rfl ((if0 _ _).trans (feq hc15).2) (by decide) (by decide) ?_
            show Steps p.tables e below (T53.setTop (mkF m 67 #[.val (.int p1), .val (.int p2), .val (.int p3), .val (.int (0 : Int32)), .val (.int p2), .val (.ref b51), .unset] [])) _
            refine XS.iconst X53.here hx rfl (hb hby at_67) ?_
            show Steps p.tables e below (T53.setTop (mkF m 68 #[.val (.int p1), .val (.int p2), .val (.int p3), .val (.int (0 : Int32)), .val (.int p2), .val (.ref b51), .unset] [(.int (0 : Int32))])) _
            refine XS.istore X53.here hx rfl (hb hby at_68) rfl (l' := #[.val (.int p1), .val (.int p2), .val (.int p3), .val (.int (0 : Int32)), .val (.int p2), .val (.ref b51), .val (.int (0 : Int32))]) rfl ?_
            show Steps p.tables e below (T53.setTop (mkF m 70 #[.val (.int p1), .val (.int p2), .val (.int p3), .val (.int (0 : Int32)), .val (.int p2), .val (.ref b51), .val (.int (0 : Int32))] [])) _
            refine XS.aload X53.here hx rfl (hb hby at_70) rfl rfl ?_
            show Steps p.tables e below (T53.setTop (mkF m 72 #[.val (.int p1), .val (.int p2), .val (.int p3), .val (.int (0 : Int32)), .val (.int p2), .val (.ref b51), .val (.int (0 : Int32))] [(.ref b51)])) _
            refine st63.trans ?_
            show Steps p.tables e below (T63.setTop (mkF m 75 #[.val (.int p1), .val (.int p2), .val (.int p3), .val (.int (0 : Int32)), .val (.int p2), .val (.ref b51), .val (.int (0 : Int32))] [(.int (own_f4 (0 : Int32) p2))])) _
            refine XS.iload X63.here hx rfl (hb hby at_75) rfl ?_
            exact kt
          by_cases hc17 : (own_f4 (0 : Int32) p2) = (0 : Int32)
          ·
            obtain ⟨fs, hr, hrun, hended, hW, hsame⟩ := X63.leave (v := some (.int (1 : Int32))) (fun h => by rw [Bd.returns] at h; cases h)
            refine ⟨_, _, k65 _ ?_, hrun, hended, _, _, rfl, ?_, ⟨_, rfl⟩, hW, hsame.mono (by decide) (by decide)⟩
            · show Steps p.tables e below (T63.setTop (mkF m 77 #[.val (.int p1), .val (.int p2), .val (.int p3), .val (.int (0 : Int32)), .val (.int p2), .val (.ref b51), .val (.int (0 : Int32))] [(.int (0 : Int32)), (.int (own_f4 (0 : Int32) p2))])) _
              refine XS.icmpNo X63.here hx rfl (hb hby at_77) rfl (teq hc17).2 ?_
              show Steps p.tables e below (T63.setTop (mkF m 80 #[.val (.int p1), .val (.int p2), .val (.int p3), .val (.int (0 : Int32)), .val (.int p2), .val (.ref b51), .val (.int (0 : Int32))] [])) _
              refine XS.iconst X63.here hx rfl (hb hby at_80) ?_
              show Steps p.tables e below (T63.setTop (mkF m 81 #[.val (.int p1), .val (.int p2), .val (.int p3), .val (.int (0 : Int32)), .val (.int p2), .val (.ref b51), .val (.int (0 : Int32))] [(.int (1 : Int32))])) _
              refine XS.goto X63.here hx rfl (pc0 := 81) (pc' := 85) rfl (hb hby at_81) (by decide) (by decide) ?_
              show Steps p.tables e below (T63.setTop (mkF m 85 #[.val (.int p1), .val (.int p2), .val (.int p3), .val (.int (0 : Int32)), .val (.int p2), .val (.ref b51), .val (.int (0 : Int32))] [(.int (1 : Int32))])) _
              exact retN X63 hx (t := .boolean) Bd.returns (by simp) (hb hby at_85) hr
            · show own_Q0 Z p1 p2 p3 h0 n0 _ T63.heap _
              rw [e63]
              exact ⟨(by rw [own_f0, if_neg hc1, if_pos hc13, if_pos hc14, if_neg hc15, if_pos hc17]), N64⟩
          ·
            obtain ⟨fs, hr, hrun, hended, hW, hsame⟩ := X63.leave (v := some (.int (0 : Int32))) (fun h => by rw [Bd.returns] at h; cases h)
            refine ⟨_, _, k65 _ ?_, hrun, hended, _, _, rfl, ?_, ⟨_, rfl⟩, hW, hsame.mono (by decide) (by decide)⟩
            · show Steps p.tables e below (T63.setTop (mkF m 77 #[.val (.int p1), .val (.int p2), .val (.int p3), .val (.int (0 : Int32)), .val (.int p2), .val (.ref b51), .val (.int (0 : Int32))] [(.int (0 : Int32)), (.int (own_f4 (0 : Int32) p2))])) _
              refine XS.icmpYes X63.here hx rfl (pc0 := 77) (pc' := 84) rfl (hb hby at_77) rfl (feq hc17).2 (by decide) (by decide) ?_
              show Steps p.tables e below (T63.setTop (mkF m 84 #[.val (.int p1), .val (.int p2), .val (.int p3), .val (.int (0 : Int32)), .val (.int p2), .val (.ref b51), .val (.int (0 : Int32))] [])) _
              refine XS.iconst X63.here hx rfl (hb hby at_84) ?_
              show Steps p.tables e below (T63.setTop (mkF m 85 #[.val (.int p1), .val (.int p2), .val (.int p3), .val (.int (0 : Int32)), .val (.int p2), .val (.ref b51), .val (.int (0 : Int32))] [(.int (0 : Int32))])) _
              exact retN X63 hx (t := .boolean) Bd.returns (by simp) (hb hby at_85) hr
            · show own_Q0 Z p1 p2 p3 h0 n0 _ T63.heap _
              rw [e63]
              exact ⟨(by rw [own_f0, if_neg hc1, if_pos hc13, if_pos hc14, if_neg hc15, if_neg hc17]), N64⟩
      ·
        obtain ⟨T66, h66, X66, e66, E66, A66, D66, -, st66⟩ := newO X0 hx hZ hown (hw _ (List.mem_of_getElem? (i := 1) rfl)) (hw _ (List.mem_of_getElem? (i := 2) rfl)) (hw _ (List.mem_of_getElem? (i := 3) rfl)) e0 (g := (mkF m 41 #[.val (.int p1), .val (.int p2), .val (.int p3), .val (.int (0 : Int32)), .val (.int (2147483646 : Int32)), .unset, .unset] [])) rfl (hb hby at_41) (by decide) (by decide)
        obtain ⟨b66, g66⟩ : ∃ z, z = h0.size := ⟨_, rfl⟩
        rw [← g66] at A66 D66 st66
        have g_b66 : n0 ≤ b66 := Nat.le_trans Z0 (Nat.le_of_eq g66.symm)
        have Z67 := Nat.le_trans Z0 E66.1
        have F_first_b66 : Fld Z h66 b66 "com/example/fetch_plan/fetchplan/Page" "first" "I" (.int (0 : Int32)) := D66 (Or.inr (hw _ (List.mem_of_getElem? (i := 16) rfl))) (ty := .int) (by decide)
        have F_max_b66 : Fld Z h66 b66 "com/example/fetch_plan/fetchplan/Page" "max" "I" (.int (0 : Int32)) := D66 (Or.inr (hw _ (List.mem_of_getElem? (i := 18) rfl))) (ty := .int) (by decide)
        obtain ⟨v68, _, ⟨T68, L68, k68, n68⟩, -, X68, ⟨Lc68, hQ68, l68, y68, z68⟩, st68⟩ := X66.specialBack hx (y := (⟨"com/example/fetch_plan/fetchplan/Page", "<init>", "(II)V"⟩ : MethodName)) rfl hown (mvT hZ (hw _ (List.mem_of_getElem? (i := 4) rfl))) (mvT hZ (hw _ (List.mem_of_getElem? (i := 5) rfl))) (mvT hZ (hw _ (List.mem_of_getElem? (i := 6) rfl))) (by decide) (backOf (W := 1) (own_rm1 l Z a0 hw [] b66 (0 : Int32) (2147483646 : Int32) (0 : Int32) (0 : Int32) h66 n0 Z67 A66 F_first_b66 g_b66 F_max_b66) hZ (hw _ (List.mem_of_getElem? (i := 6) rfl)) (hw _ (List.mem_of_getElem? (i := 3) rfl)) (by decide) (by decide)) (g := (mkF m 48 #[.val (.int p1), .val (.int p2), .val (.int p3), .val (.int (0 : Int32)), .val (.int (2147483646 : Int32)), .unset, .unset] [(.int (2147483646 : Int32)), (.int (0 : Int32)), (.ref b66), (.ref b66)])) rfl (by rw [hml]; rfl) (Steps.refl _) (a := b66) (argsL := [(.int (0 : Int32)), (.int (2147483646 : Int32))]) (rest := [(.ref b66)]) (lenOf own_pd26 rfl) rfl (by show 2 * 0 + _ ≤ _; exact Nat.le_of_eq rfl) (hb hby at_48) (fun _ _ => ⟨rfl, e66, (by decide : 1 + 0 ≤ _), (by decide : 2 + 0 ≤ _)⟩)
        dsimp only [Pt.U, Pt.locs, Pt.cells, Pt.slots] at X68 l68 y68 z68 st68 hQ68
        subst l68 y68 z68
        obtain ⟨rfl, N68q, K68, Q68_0, Q68_1, Q68_2⟩ := hQ68
        have f69 := A66.keep K68
        have Z72 := Nat.le_trans Z67 K68.1
        have N73 := Fr.app N0 N68q
        obtain ⟨cq74, kq74, q74a, q74b, q74c⟩ := isOf hZ rfl Q68_0
        obtain ⟨v74, _, ⟨T74, L74, k74, n74⟩, -, X74, ⟨Lc74, hQ74, l74, y74, z74⟩, st74⟩ := X68.virtualBack hx (y := (⟨"com/example/fetch_plan/fetchplan/Page", "keepsAll", "()Z"⟩ : MethodName)) (z := (⟨"com/example/fetch_plan/fetchplan/Page", "keepsAll", "()Z"⟩ : MethodName)) hown (mvT hZ (hw _ (List.mem_of_getElem? (i := 19) rfl))) (mvT hZ (hw _ (List.mem_of_getElem? (i := 20) rfl))) (notFace_of_selects (args := #[]) (mvT hZ (hw _ (List.mem_of_getElem? (i := 22) rfl)))) (mvT hZ (hw _ (List.mem_of_getElem? (i := 22) rfl))) (mvT hZ (hw _ (List.mem_of_getElem? (i := 21) rfl))) (by decide) (backOf (W := 0) (own_rm4 l Z a0 hw [] b66 (0 : Int32) (2147483646 : Int32) T68.heap n0 Z72 Q68_1 Q68_2) hZ (hw _ (List.mem_of_getElem? (i := 23) rfl)) (hw _ (List.mem_of_getElem? (i := 3) rfl)) (by decide) (by decide)) q74a q74c (g := (mkF m 72 #[.val (.int p1), .val (.int p2), .val (.int p3), .val (.int (0 : Int32)), .val (.int (2147483646 : Int32)), .val (.ref b66), .val (.int (0 : Int32))] [(.ref b66)])) rfl (by rw [hml]; rfl) (Steps.refl _) (argsL := []) (rest := []) (lenOf own_pd27 rfl) rfl (by show 2 * 0 + _ ≤ _; exact Nat.le_of_eq rfl) (hb hby at_72) (fun _ _ => ⟨rfl, rfl, (by decide : 1 + 0 ≤ _), (by decide : 2 + 0 ≤ _)⟩)
        dsimp only [Pt.U, Pt.locs, Pt.cells, Pt.slots] at X74 l74 y74 z74 st74 hQ74
        subst l74 y74 z74
        obtain ⟨hv74, N74q, e74⟩ := hQ74
        have N75 := Fr.app N73 N74q
        rw [show (own_f4 (0 : Int32) (2147483646 : Int32)) = (0 : Int32) from by first | rfl | decide | simp [own_f4]] at hv74
        subst hv74
        obtain ⟨fs, hr, hrun, hended, hW, hsame⟩ := X74.leave (v := some (.int (1 : Int32))) (fun h => by rw [Bd.returns] at h; cases h)
        refine ⟨_, _, k50 _ ?_, hrun, hended, _, _, rfl, ?_, ⟨_, rfl⟩, hW, hsame.mono (by decide) (by decide)⟩
        · show Steps p.tables e below (s₁.setTop (mkF m 28 #[.val (.int p1), .val (.int p2), .val (.int p3), .val (.int (0 : Int32)), .unset, .unset, .unset] [(.int (p3 &&& (4 : Int32)))])) _
          refine XS.ifNo X0.here hx rfl (hb hby at_28) rfl ((if0 _ _).trans (feq hc14).1) ?_
          show Steps p.tables e below (s₁.setTop (mkF m 31 #[.val (.int p1), .val (.int p2), .val (.int p3), .val (.int (0 : Int32)), .unset, .unset, .unset] [])) _
          refine X0.ldcInt hx hown (mvT hZ (hw _ (List.mem_of_getElem? (i := 25) rfl))) (g := (mkF m 31 #[.val (.int p1), .val (.int p2), .val (.int p3), .val (.int (0 : Int32)), .unset, .unset, .unset] [])) rfl (hb hby at_31) _ ?_
          show Steps p.tables e below (s₁.setTop (mkF m 33 #[.val (.int p1), .val (.int p2), .val (.int p3), .val (.int (0 : Int32)), .unset, .unset, .unset] [(.int (2147483646 : Int32))])) _
          refine XS.istore X0.here hx rfl (hb hby at_33) rfl (l' := #[.val (.int p1), .val (.int p2), .val (.int p3), .val (.int (0 : Int32)), .val (.int (2147483646 : Int32)), .unset, .unset]) rfl ?_
          show Steps p.tables e below (s₁.setTop (mkF m 35 #[.val (.int p1), .val (.int p2), .val (.int p3), .val (.int (0 : Int32)), .val (.int (2147483646 : Int32)), .unset, .unset] [])) _
          refine XS.goto X0.here hx rfl (pc0 := 35) (pc' := 41) rfl (hb hby at_35) (by decide) (by decide) ?_
          show Steps p.tables e below (s₁.setTop (mkF m 41 #[.val (.int p1), .val (.int p2), .val (.int p3), .val (.int (0 : Int32)), .val (.int (2147483646 : Int32)), .unset, .unset] [])) _
          refine st66 _ ?_
          show Steps p.tables e below (T66.setTop (mkF m 44 #[.val (.int p1), .val (.int p2), .val (.int p3), .val (.int (0 : Int32)), .val (.int (2147483646 : Int32)), .unset, .unset] [(.ref b66)])) _
          refine XS.dup X66.here hx rfl (hb hby at_44) rfl rfl ?_
          show Steps p.tables e below (T66.setTop (mkF m 45 #[.val (.int p1), .val (.int p2), .val (.int p3), .val (.int (0 : Int32)), .val (.int (2147483646 : Int32)), .unset, .unset] [(.ref b66), (.ref b66)])) _
          refine XS.iloadN X66.here hx rfl (hb hby at_45) rfl ?_
          show Steps p.tables e below (T66.setTop (mkF m 46 #[.val (.int p1), .val (.int p2), .val (.int p3), .val (.int (0 : Int32)), .val (.int (2147483646 : Int32)), .unset, .unset] [(.int (0 : Int32)), (.ref b66), (.ref b66)])) _
          refine XS.iload X66.here hx rfl (hb hby at_46) rfl ?_
          show Steps p.tables e below (T66.setTop (mkF m 48 #[.val (.int p1), .val (.int p2), .val (.int p3), .val (.int (0 : Int32)), .val (.int (2147483646 : Int32)), .unset, .unset] [(.int (2147483646 : Int32)), (.int (0 : Int32)), (.ref b66), (.ref b66)])) _
          refine st68.trans ?_
          show Steps p.tables e below (T68.setTop (mkF m 51 #[.val (.int p1), .val (.int p2), .val (.int p3), .val (.int (0 : Int32)), .val (.int (2147483646 : Int32)), .unset, .unset] [(.ref b66)])) _
          refine XS.astore X68.here hx rfl (hb hby at_51) rfl rfl (l' := #[.val (.int p1), .val (.int p2), .val (.int p3), .val (.int (0 : Int32)), .val (.int (2147483646 : Int32)), .val (.ref b66), .unset]) rfl ?_
          show Steps p.tables e below (T68.setTop (mkF m 53 #[.val (.int p1), .val (.int p2), .val (.int p3), .val (.int (0 : Int32)), .val (.int (2147483646 : Int32)), .val (.ref b66), .unset] [])) _
          refine XS.iloadN X68.here hx rfl (hb hby at_53) rfl ?_
          show Steps p.tables e below (T68.setTop (mkF m 54 #[.val (.int p1), .val (.int p2), .val (.int p3), .val (.int (0 : Int32)), .val (.int (2147483646 : Int32)), .val (.ref b66), .unset] [(.int (0 : Int32))])) _
          refine XS.iload X68.here hx rfl (hb hby at_54) rfl ?_
          show Steps p.tables e below (T68.setTop (mkF m 56 #[.val (.int p1), .val (.int p2), .val (.int p3), .val (.int (0 : Int32)), .val (.int (2147483646 : Int32)), .val (.ref b66), .unset] [(.int (2147483646 : Int32)), (.int (0 : Int32))])) _
          refine X68.ldcInt hx hown (mvT hZ (hw _ (List.mem_of_getElem? (i := 0) rfl))) (g := (mkF m 56 #[.val (.int p1), .val (.int p2), .val (.int p3), .val (.int (0 : Int32)), .val (.int (2147483646 : Int32)), .val (.ref b66), .unset] [(.int (2147483646 : Int32)), (.int (0 : Int32))])) rfl (hb hby at_56) _ ?_
          show Steps p.tables e below (T68.setTop (mkF m 58 #[.val (.int p1), .val (.int p2), .val (.int p3), .val (.int (0 : Int32)), .val (.int (2147483646 : Int32)), .val (.ref b66), .unset] [(.int (2147483647 : Int32)), (.int (2147483646 : Int32)), (.int (0 : Int32))])) _
          refine XS.ixor X68.here hx rfl (hb hby at_58) rfl ?_
          show Steps p.tables e below (T68.setTop (mkF m 59 #[.val (.int p1), .val (.int p2), .val (.int p3), .val (.int (0 : Int32)), .val (.int (2147483646 : Int32)), .val (.ref b66), .unset] [(.int (1 : Int32)), (.int (0 : Int32))])) _
          refine XS.ior X68.here hx rfl (hb hby at_59) rfl ?_
          show Steps p.tables e below (T68.setTop (mkF m 60 #[.val (.int p1), .val (.int p2), .val (.int p3), .val (.int (0 : Int32)), .val (.int (2147483646 : Int32)), .val (.ref b66), .unset] [(.int (1 : Int32))])) _
          refine XS.ifYes X68.here hx rfl (pc0 := 60) (pc' := 67) rfl (hb hby at_60) rfl ((if0 _ _).trans (feq (by decide : ¬ ((1 : Int32) = (0 : Int32)))).2) (by decide) (by decide) ?_
          show Steps p.tables e below (T68.setTop (mkF m 67 #[.val (.int p1), .val (.int p2), .val (.int p3), .val (.int (0 : Int32)), .val (.int (2147483646 : Int32)), .val (.ref b66), .unset] [])) _
          refine XS.iconst X68.here hx rfl (hb hby at_67) ?_
          show Steps p.tables e below (T68.setTop (mkF m 68 #[.val (.int p1), .val (.int p2), .val (.int p3), .val (.int (0 : Int32)), .val (.int (2147483646 : Int32)), .val (.ref b66), .unset] [(.int (0 : Int32))])) _
          refine XS.istore X68.here hx rfl (hb hby at_68) rfl (l' := #[.val (.int p1), .val (.int p2), .val (.int p3), .val (.int (0 : Int32)), .val (.int (2147483646 : Int32)), .val (.ref b66), .val (.int (0 : Int32))]) rfl ?_
          show Steps p.tables e below (T68.setTop (mkF m 70 #[.val (.int p1), .val (.int p2), .val (.int p3), .val (.int (0 : Int32)), .val (.int (2147483646 : Int32)), .val (.ref b66), .val (.int (0 : Int32))] [])) _
          refine XS.aload X68.here hx rfl (hb hby at_70) rfl rfl ?_
          show Steps p.tables e below (T68.setTop (mkF m 72 #[.val (.int p1), .val (.int p2), .val (.int p3), .val (.int (0 : Int32)), .val (.int (2147483646 : Int32)), .val (.ref b66), .val (.int (0 : Int32))] [(.ref b66)])) _
          refine st74.trans ?_
          show Steps p.tables e below (T74.setTop (mkF m 75 #[.val (.int p1), .val (.int p2), .val (.int p3), .val (.int (0 : Int32)), .val (.int (2147483646 : Int32)), .val (.ref b66), .val (.int (0 : Int32))] [(.int (0 : Int32))])) _
          refine XS.iload X74.here hx rfl (hb hby at_75) rfl ?_
          show Steps p.tables e below (T74.setTop (mkF m 77 #[.val (.int p1), .val (.int p2), .val (.int p3), .val (.int (0 : Int32)), .val (.int (2147483646 : Int32)), .val (.ref b66), .val (.int (0 : Int32))] [(.int (0 : Int32)), (.int (0 : Int32))])) _
          refine XS.icmpNo X74.here hx rfl (hb hby at_77) rfl (teq (by decide : (0 : Int32) = (0 : Int32))).2 ?_
          show Steps p.tables e below (T74.setTop (mkF m 80 #[.val (.int p1), .val (.int p2), .val (.int p3), .val (.int (0 : Int32)), .val (.int (2147483646 : Int32)), .val (.ref b66), .val (.int (0 : Int32))] [])) _
          refine XS.iconst X74.here hx rfl (hb hby at_80) ?_
          show Steps p.tables e below (T74.setTop (mkF m 81 #[.val (.int p1), .val (.int p2), .val (.int p3), .val (.int (0 : Int32)), .val (.int (2147483646 : Int32)), .val (.ref b66), .val (.int (0 : Int32))] [(.int (1 : Int32))])) _
          refine XS.goto X74.here hx rfl (pc0 := 81) (pc' := 85) rfl (hb hby at_81) (by decide) (by decide) ?_
          show Steps p.tables e below (T74.setTop (mkF m 85 #[.val (.int p1), .val (.int p2), .val (.int p3), .val (.int (0 : Int32)), .val (.int (2147483646 : Int32)), .val (.ref b66), .val (.int (0 : Int32))] [(.int (1 : Int32))])) _
          exact retN X74 hx (t := .boolean) Bd.returns (by simp) (hb hby at_85) hr
        · show own_Q0 Z p1 p2 p3 h0 n0 _ T74.heap _
          rw [e74]
          exact ⟨(by rw [own_f0, if_neg hc1, if_pos hc13, if_neg hc14]), N75⟩
    ·
      obtain ⟨T76, h76, X76, e76, E76, A76, D76, -, st76⟩ := newO X0 hx hZ hown (hw _ (List.mem_of_getElem? (i := 1) rfl)) (hw _ (List.mem_of_getElem? (i := 2) rfl)) (hw _ (List.mem_of_getElem? (i := 3) rfl)) e0 (g := (mkF m 41 #[.val (.int p1), .val (.int p2), .val (.int p3), .val (.int (0 : Int32)), .val (.int (2147483647 : Int32)), .unset, .unset] [])) rfl (hb hby at_41) (by decide) (by decide)
      obtain ⟨b76, g76⟩ : ∃ z, z = h0.size := ⟨_, rfl⟩
      rw [← g76] at A76 D76 st76
      have g_b76 : n0 ≤ b76 := Nat.le_trans Z0 (Nat.le_of_eq g76.symm)
      have Z77 := Nat.le_trans Z0 E76.1
      have F_first_b76 : Fld Z h76 b76 "com/example/fetch_plan/fetchplan/Page" "first" "I" (.int (0 : Int32)) := D76 (Or.inr (hw _ (List.mem_of_getElem? (i := 16) rfl))) (ty := .int) (by decide)
      have F_max_b76 : Fld Z h76 b76 "com/example/fetch_plan/fetchplan/Page" "max" "I" (.int (0 : Int32)) := D76 (Or.inr (hw _ (List.mem_of_getElem? (i := 18) rfl))) (ty := .int) (by decide)
      obtain ⟨v78, _, ⟨T78, L78, k78, n78⟩, -, X78, ⟨Lc78, hQ78, l78, y78, z78⟩, st78⟩ := X76.specialBack hx (y := (⟨"com/example/fetch_plan/fetchplan/Page", "<init>", "(II)V"⟩ : MethodName)) rfl hown (mvT hZ (hw _ (List.mem_of_getElem? (i := 4) rfl))) (mvT hZ (hw _ (List.mem_of_getElem? (i := 5) rfl))) (mvT hZ (hw _ (List.mem_of_getElem? (i := 6) rfl))) (by decide) (backOf (W := 1) (own_rm1 l Z a0 hw [] b76 (0 : Int32) (2147483647 : Int32) (0 : Int32) (0 : Int32) h76 n0 Z77 A76 F_first_b76 g_b76 F_max_b76) hZ (hw _ (List.mem_of_getElem? (i := 6) rfl)) (hw _ (List.mem_of_getElem? (i := 3) rfl)) (by decide) (by decide)) (g := (mkF m 48 #[.val (.int p1), .val (.int p2), .val (.int p3), .val (.int (0 : Int32)), .val (.int (2147483647 : Int32)), .unset, .unset] [(.int (2147483647 : Int32)), (.int (0 : Int32)), (.ref b76), (.ref b76)])) rfl (by rw [hml]; rfl) (Steps.refl _) (a := b76) (argsL := [(.int (0 : Int32)), (.int (2147483647 : Int32))]) (rest := [(.ref b76)]) (lenOf own_pd26 rfl) rfl (by show 2 * 0 + _ ≤ _; exact Nat.le_of_eq rfl) (hb hby at_48) (fun _ _ => ⟨rfl, e76, (by decide : 1 + 0 ≤ _), (by decide : 2 + 0 ≤ _)⟩)
      dsimp only [Pt.U, Pt.locs, Pt.cells, Pt.slots] at X78 l78 y78 z78 st78 hQ78
      subst l78 y78 z78
      obtain ⟨rfl, N78q, K78, Q78_0, Q78_1, Q78_2⟩ := hQ78
      have f79 := A76.keep K78
      have Z82 := Nat.le_trans Z77 K78.1
      have N83 := Fr.app N0 N78q
      obtain ⟨cq84, kq84, q84a, q84b, q84c⟩ := isOf hZ rfl Q78_0
      obtain ⟨v84, _, ⟨T84, L84, k84, n84⟩, -, X84, ⟨Lc84, hQ84, l84, y84, z84⟩, st84⟩ := X78.virtualBack hx (y := (⟨"com/example/fetch_plan/fetchplan/Page", "keepsAll", "()Z"⟩ : MethodName)) (z := (⟨"com/example/fetch_plan/fetchplan/Page", "keepsAll", "()Z"⟩ : MethodName)) hown (mvT hZ (hw _ (List.mem_of_getElem? (i := 19) rfl))) (mvT hZ (hw _ (List.mem_of_getElem? (i := 20) rfl))) (notFace_of_selects (args := #[]) (mvT hZ (hw _ (List.mem_of_getElem? (i := 22) rfl)))) (mvT hZ (hw _ (List.mem_of_getElem? (i := 22) rfl))) (mvT hZ (hw _ (List.mem_of_getElem? (i := 21) rfl))) (by decide) (backOf (W := 0) (own_rm4 l Z a0 hw [] b76 (0 : Int32) (2147483647 : Int32) T78.heap n0 Z82 Q78_1 Q78_2) hZ (hw _ (List.mem_of_getElem? (i := 23) rfl)) (hw _ (List.mem_of_getElem? (i := 3) rfl)) (by decide) (by decide)) q84a q84c (g := (mkF m 72 #[.val (.int p1), .val (.int p2), .val (.int p3), .val (.int (0 : Int32)), .val (.int (2147483647 : Int32)), .val (.ref b76), .val (.int (1 : Int32))] [(.ref b76)])) rfl (by rw [hml]; rfl) (Steps.refl _) (argsL := []) (rest := []) (lenOf own_pd27 rfl) rfl (by show 2 * 0 + _ ≤ _; exact Nat.le_of_eq rfl) (hb hby at_72) (fun _ _ => ⟨rfl, rfl, (by decide : 1 + 0 ≤ _), (by decide : 2 + 0 ≤ _)⟩)
      dsimp only [Pt.U, Pt.locs, Pt.cells, Pt.slots] at X84 l84 y84 z84 st84 hQ84
      subst l84 y84 z84
      obtain ⟨hv84, N84q, e84⟩ := hQ84
      have N85 := Fr.app N83 N84q
      rw [show (own_f4 (0 : Int32) (2147483647 : Int32)) = (1 : Int32) from by first | rfl | decide | simp [own_f4]] at hv84
      subst hv84
      obtain ⟨fs, hr, hrun, hended, hW, hsame⟩ := X84.leave (v := some (.int (1 : Int32))) (fun h => by rw [Bd.returns] at h; cases h)
      refine ⟨_, _, k49 _ ?_, hrun, hended, _, _, rfl, ?_, ⟨_, rfl⟩, hW, hsame.mono (by decide) (by decide)⟩
      · show Steps p.tables e below (s₁.setTop (mkF m 15 #[.val (.int p1), .val (.int p2), .val (.int p3), .val (.int (0 : Int32)), .unset, .unset, .unset] [(.int (p3 &&& (2 : Int32)))])) _
        refine XS.ifNo X0.here hx rfl (hb hby at_15) rfl ((if0 _ _).trans (feq hc13).1) ?_
        show Steps p.tables e below (s₁.setTop (mkF m 18 #[.val (.int p1), .val (.int p2), .val (.int p3), .val (.int (0 : Int32)), .unset, .unset, .unset] [])) _
        refine X0.ldcInt hx hown (mvT hZ (hw _ (List.mem_of_getElem? (i := 0) rfl))) (g := (mkF m 18 #[.val (.int p1), .val (.int p2), .val (.int p3), .val (.int (0 : Int32)), .unset, .unset, .unset] [])) rfl (hb hby at_18) _ ?_
        show Steps p.tables e below (s₁.setTop (mkF m 20 #[.val (.int p1), .val (.int p2), .val (.int p3), .val (.int (0 : Int32)), .unset, .unset, .unset] [(.int (2147483647 : Int32))])) _
        refine XS.istore X0.here hx rfl (hb hby at_20) rfl (l' := #[.val (.int p1), .val (.int p2), .val (.int p3), .val (.int (0 : Int32)), .val (.int (2147483647 : Int32)), .unset, .unset]) rfl ?_
        show Steps p.tables e below (s₁.setTop (mkF m 22 #[.val (.int p1), .val (.int p2), .val (.int p3), .val (.int (0 : Int32)), .val (.int (2147483647 : Int32)), .unset, .unset] [])) _
        refine XS.goto X0.here hx rfl (pc0 := 22) (pc' := 41) rfl (hb hby at_22) (by decide) (by decide) ?_
        show Steps p.tables e below (s₁.setTop (mkF m 41 #[.val (.int p1), .val (.int p2), .val (.int p3), .val (.int (0 : Int32)), .val (.int (2147483647 : Int32)), .unset, .unset] [])) _
        refine st76 _ ?_
        show Steps p.tables e below (T76.setTop (mkF m 44 #[.val (.int p1), .val (.int p2), .val (.int p3), .val (.int (0 : Int32)), .val (.int (2147483647 : Int32)), .unset, .unset] [(.ref b76)])) _
        refine XS.dup X76.here hx rfl (hb hby at_44) rfl rfl ?_
        show Steps p.tables e below (T76.setTop (mkF m 45 #[.val (.int p1), .val (.int p2), .val (.int p3), .val (.int (0 : Int32)), .val (.int (2147483647 : Int32)), .unset, .unset] [(.ref b76), (.ref b76)])) _
        refine XS.iloadN X76.here hx rfl (hb hby at_45) rfl ?_
        show Steps p.tables e below (T76.setTop (mkF m 46 #[.val (.int p1), .val (.int p2), .val (.int p3), .val (.int (0 : Int32)), .val (.int (2147483647 : Int32)), .unset, .unset] [(.int (0 : Int32)), (.ref b76), (.ref b76)])) _
        refine XS.iload X76.here hx rfl (hb hby at_46) rfl ?_
        show Steps p.tables e below (T76.setTop (mkF m 48 #[.val (.int p1), .val (.int p2), .val (.int p3), .val (.int (0 : Int32)), .val (.int (2147483647 : Int32)), .unset, .unset] [(.int (2147483647 : Int32)), (.int (0 : Int32)), (.ref b76), (.ref b76)])) _
        refine st78.trans ?_
        show Steps p.tables e below (T78.setTop (mkF m 51 #[.val (.int p1), .val (.int p2), .val (.int p3), .val (.int (0 : Int32)), .val (.int (2147483647 : Int32)), .unset, .unset] [(.ref b76)])) _
        refine XS.astore X78.here hx rfl (hb hby at_51) rfl rfl (l' := #[.val (.int p1), .val (.int p2), .val (.int p3), .val (.int (0 : Int32)), .val (.int (2147483647 : Int32)), .val (.ref b76), .unset]) rfl ?_
        show Steps p.tables e below (T78.setTop (mkF m 53 #[.val (.int p1), .val (.int p2), .val (.int p3), .val (.int (0 : Int32)), .val (.int (2147483647 : Int32)), .val (.ref b76), .unset] [])) _
        refine XS.iloadN X78.here hx rfl (hb hby at_53) rfl ?_
        show Steps p.tables e below (T78.setTop (mkF m 54 #[.val (.int p1), .val (.int p2), .val (.int p3), .val (.int (0 : Int32)), .val (.int (2147483647 : Int32)), .val (.ref b76), .unset] [(.int (0 : Int32))])) _
        refine XS.iload X78.here hx rfl (hb hby at_54) rfl ?_
        show Steps p.tables e below (T78.setTop (mkF m 56 #[.val (.int p1), .val (.int p2), .val (.int p3), .val (.int (0 : Int32)), .val (.int (2147483647 : Int32)), .val (.ref b76), .unset] [(.int (2147483647 : Int32)), (.int (0 : Int32))])) _
        refine X78.ldcInt hx hown (mvT hZ (hw _ (List.mem_of_getElem? (i := 0) rfl))) (g := (mkF m 56 #[.val (.int p1), .val (.int p2), .val (.int p3), .val (.int (0 : Int32)), .val (.int (2147483647 : Int32)), .val (.ref b76), .unset] [(.int (2147483647 : Int32)), (.int (0 : Int32))])) rfl (hb hby at_56) _ ?_
        show Steps p.tables e below (T78.setTop (mkF m 58 #[.val (.int p1), .val (.int p2), .val (.int p3), .val (.int (0 : Int32)), .val (.int (2147483647 : Int32)), .val (.ref b76), .unset] [(.int (2147483647 : Int32)), (.int (2147483647 : Int32)), (.int (0 : Int32))])) _
        refine XS.ixor X78.here hx rfl (hb hby at_58) rfl ?_
        show Steps p.tables e below (T78.setTop (mkF m 59 #[.val (.int p1), .val (.int p2), .val (.int p3), .val (.int (0 : Int32)), .val (.int (2147483647 : Int32)), .val (.ref b76), .unset] [(.int (0 : Int32)), (.int (0 : Int32))])) _
        refine XS.ior X78.here hx rfl (hb hby at_59) rfl ?_
        show Steps p.tables e below (T78.setTop (mkF m 60 #[.val (.int p1), .val (.int p2), .val (.int p3), .val (.int (0 : Int32)), .val (.int (2147483647 : Int32)), .val (.ref b76), .unset] [(.int (0 : Int32))])) _
        refine XS.ifNo X78.here hx rfl (hb hby at_60) rfl ((if0 _ _).trans (teq (by decide : (0 : Int32) = (0 : Int32))).2) ?_
        show Steps p.tables e below (T78.setTop (mkF m 63 #[.val (.int p1), .val (.int p2), .val (.int p3), .val (.int (0 : Int32)), .val (.int (2147483647 : Int32)), .val (.ref b76), .unset] [])) _
        refine XS.iconst X78.here hx rfl (hb hby at_63) ?_
        show Steps p.tables e below (T78.setTop (mkF m 64 #[.val (.int p1), .val (.int p2), .val (.int p3), .val (.int (0 : Int32)), .val (.int (2147483647 : Int32)), .val (.ref b76), .unset] [(.int (1 : Int32))])) _
        refine XS.goto X78.here hx rfl (pc0 := 64) (pc' := 68) rfl (hb hby at_64) (by decide) (by decide) ?_
        show Steps p.tables e below (T78.setTop (mkF m 68 #[.val (.int p1), .val (.int p2), .val (.int p3), .val (.int (0 : Int32)), .val (.int (2147483647 : Int32)), .val (.ref b76), .unset] [(.int (1 : Int32))])) _
        refine XS.istore X78.here hx rfl (hb hby at_68) rfl (l' := #[.val (.int p1), .val (.int p2), .val (.int p3), .val (.int (0 : Int32)), .val (.int (2147483647 : Int32)), .val (.ref b76), .val (.int (1 : Int32))]) rfl ?_
        show Steps p.tables e below (T78.setTop (mkF m 70 #[.val (.int p1), .val (.int p2), .val (.int p3), .val (.int (0 : Int32)), .val (.int (2147483647 : Int32)), .val (.ref b76), .val (.int (1 : Int32))] [])) _
        refine XS.aload X78.here hx rfl (hb hby at_70) rfl rfl ?_
        show Steps p.tables e below (T78.setTop (mkF m 72 #[.val (.int p1), .val (.int p2), .val (.int p3), .val (.int (0 : Int32)), .val (.int (2147483647 : Int32)), .val (.ref b76), .val (.int (1 : Int32))] [(.ref b76)])) _
        refine st84.trans ?_
        show Steps p.tables e below (T84.setTop (mkF m 75 #[.val (.int p1), .val (.int p2), .val (.int p3), .val (.int (0 : Int32)), .val (.int (2147483647 : Int32)), .val (.ref b76), .val (.int (1 : Int32))] [(.int (1 : Int32))])) _
        refine XS.iload X84.here hx rfl (hb hby at_75) rfl ?_
        show Steps p.tables e below (T84.setTop (mkF m 77 #[.val (.int p1), .val (.int p2), .val (.int p3), .val (.int (0 : Int32)), .val (.int (2147483647 : Int32)), .val (.ref b76), .val (.int (1 : Int32))] [(.int (1 : Int32)), (.int (1 : Int32))])) _
        refine XS.icmpNo X84.here hx rfl (hb hby at_77) rfl (teq (by decide : (1 : Int32) = (1 : Int32))).2 ?_
        show Steps p.tables e below (T84.setTop (mkF m 80 #[.val (.int p1), .val (.int p2), .val (.int p3), .val (.int (0 : Int32)), .val (.int (2147483647 : Int32)), .val (.ref b76), .val (.int (1 : Int32))] [])) _
        refine XS.iconst X84.here hx rfl (hb hby at_80) ?_
        show Steps p.tables e below (T84.setTop (mkF m 81 #[.val (.int p1), .val (.int p2), .val (.int p3), .val (.int (0 : Int32)), .val (.int (2147483647 : Int32)), .val (.ref b76), .val (.int (1 : Int32))] [(.int (1 : Int32))])) _
        refine XS.goto X84.here hx rfl (pc0 := 81) (pc' := 85) rfl (hb hby at_81) (by decide) (by decide) ?_
        show Steps p.tables e below (T84.setTop (mkF m 85 #[.val (.int p1), .val (.int p2), .val (.int p3), .val (.int (0 : Int32)), .val (.int (2147483647 : Int32)), .val (.ref b76), .val (.int (1 : Int32))] [(.int (1 : Int32))])) _
        exact retN X84 hx (t := .boolean) Bd.returns (by simp) (hb hby at_85) hr
      · show own_Q0 Z p1 p2 p3 h0 n0 _ T84.heap _
        rw [e84]
        exact ⟨(by rw [own_f0, if_neg hc1, if_neg hc13]), N85⟩
theorem own_or0 (a b : Int32) : (a ||| b = 0) = (a = 0 ∧ b = 0) := by
  rw [← Int32.toBitVec_inj, ← Int32.toBitVec_inj, ← Int32.toBitVec_inj]
  show (a.toBitVec ||| b.toBitVec = 0#32) = (a.toBitVec = 0#32 ∧ b.toBitVec = 0#32)
  rw [BitVec.or_eq_zero_iff]
theorem own_xor0 (a b : Int32) : (a ^^^ b = 0) = (a = b) := by
  rw [← Int32.toBitVec_inj, ← Int32.toBitVec_inj]
  show (a.toBitVec ^^^ b.toBitVec = 0#32) = (a.toBitVec = b.toBitVec)
  rw [BitVec.xor_eq_zero_iff]
theorem own_a (a b : Int32) : (if (a = 0 ∧ b = 2147483647) then (if own_f4 a b = 1 then (1 : Int32) else 0) else if own_f4 a b = 0 then 1 else 0) = 1 := by
  unfold own_f4
  by_cases h1 : a = 0
  · by_cases h2 : b = 2147483647
    · rw [if_pos ⟨h1, h2⟩, if_pos h1, if_pos h2]; rfl
    · rw [if_neg (fun q => h2 q.2), if_pos h1, if_neg h2]; rfl
  · rw [if_neg (fun q => h1 q.1), if_neg h1]; rfl
theorem own_law (p1 p2 p3 : Int32) : own_f0 p1 p2 p3 = 1 := by
  have e1 := own_a p1 p2
  have e2 := own_a p1 2147483646
  have e3 := own_a p1 2147483647
  have e4 := own_a 0 p2
  have n1 : ¬ ((1 : Int32) = 0) := by decide
  have n2 : ¬ ((2147483646 : Int32) = 2147483647) := by decide
  simp only [n2, and_false, and_true, true_and, if_false] at e2 e3 e4
  have f1 : own_f4 0 2147483646 = 0 := by decide
  have f2 : own_f4 0 2147483647 = 1 := by decide
  unfold own_f0
  simp only [own_or0, own_xor0, n1, and_false, and_true, true_and, if_false, e1, e2, e3, e4, f1, f2, if_true, ite_self]
set_option maxRecDepth 65536 in
set_option maxHeartbeats 40000000 in
theorem comes_1 {Post : Tables → Env → Array Value → State → Outcome → State → Prop} (hpost : ∀ tb e args s v u, (limb_1_1.after args s (.returned v) u = true ∧ limb_1_2.after args s (.returned v) u = true ∧ True) → FrameEnd s (.returned v) u (Jvm.fieldLocs frame_1_writes args s ++ Jvm.arrayLocs frame_1_arrays args s ++ Jvm.staticLocs frame_1_statics s) 16 128 → Post tb e args s (.returned v) u) :
    ArmFor flags0 classFile x code maxLocals ret World_1 tables_1 room_1 Calls_1 rest_1 Pre_1 Post := by
  intro l hfl _ _ p e ha hc hk s m args below hf hA hF happ hP
  obtain ⟨hcalls, hrest, hpre⟩ := hP
  obtain ⟨-, -, -, hnamed, -, -, -, hat⟩ := (Spec.applies_iff hf).mp happ
  obtain ⟨hg, hn⟩ := and_e (Cond.before_iff.mp (show (Jvm.Cond.and given_1 narrow_1).before args s = true from hpre))
  obtain ⟨gg1, gg2⟩ := and_e hg
  obtain ⟨gg3, gg4⟩ := and_e gg2
  obtain ⟨gg5, gg6⟩ := and_e gg4
  obtain ⟨w0, w1, w2, rfl⟩ : ∃ w0 w1 w2 : Value, args = #[w0, w1, w2] := by
    have hs : args.size = 3 := by simpa [Cond.value, given_1] using gg1
    obtain ⟨L⟩ := args
    match L, hs with
    | [w0, w1, w2], _ => exact ⟨w0, w1, w2, rfl⟩
  have hw := fun d (hd : d ∈ tables_1) => atoms_spec (ws := Jvm.Cond.code x code maxLocals ret :: tables_1) hat d (List.mem_cons_of_mem _ hd)
  have hfit : Fit s := fun {y c} hc i hi => by
    obtain ⟨ha, rfl⟩ := Array.getElem?_eq_some_iff.mp hc
    have q := List.all_eq_true.mp ((Array.all_eq_true_iff_forall_mem.mp hF) _ (Array.getElem_mem ha)) i (List.mem_range.mpr hi)
    simpa [Array.getElem?_eq_getElem hi] using q
  obtain ⟨i0, ei0⟩ := is_v gg3
  obtain rfl : w0 = (.int i0) := Option.some.inj ei0
  obtain ⟨i1, ei1⟩ := is_v gg5
  obtain rfl : w1 = (.int i1) := Option.some.inj ei1
  obtain ⟨i2, ei2⟩ := is_v gg6
  obtain rfl : w2 = (.int i2) := Option.some.inj ei2
  obtain ⟨n, o, h1, h2, h3, _, L, rfl, ⟨rfl, N⟩, hq⟩ := own_rm0 l s _ hw tables_1 i0 i1 i2 s.heap s.heap.size (Nat.le_refl _) p e ha hc hk s m _ below hf ((Spec.applies_iff_loose hf).mp happ).1 ⟨rfl, State.Warmed39.refl s, rfl⟩ trivial
  refine ⟨n, _, h1, h2, h3, hpost _ _ _ _ _ _ ⟨Cond.after_iff.mpr rfl, Cond.after_iff.mpr (eq_i res_at (Term.int_eval (1)) (congrArg Value.int (own_law i0 i1 i2))), trivial⟩ ⟨hq.1, hq.2.1, (hq.2.2.sift fun y hy => Or.inr (N y hy)).mono (by decide) (by decide)⟩⟩
theorem main_1_1 : Claimed_1_1 := comes_1 fun _ _ _ _ _ _ h hF => ⟨h.1, hF⟩
theorem main_1_2 : Claimed_1_2 := comes_1 fun _ _ _ _ _ _ h hF => ⟨h.2.1, hF⟩
end Jvm.Pilot.@@N@@
namespace Jvm.Pilot.@@N@@
open Jvm Jvm.ClassFile Sem Op Lib Jvm.Free Jvm.Stand Jvm.Pilot.@@N@@.Jvm.D
/-! MADE BY PROGRAM (witnessworld.py) out of the Statement's table words and the real class files: 10 classes; the members and pool entries that the words name. The judged class is class 1, her method 1. -/
namespace start1
open Jvm.ClassFile
def u (s : String) : CpInfo := .utf8 (stringToUtf16 s)
/-- a pool by its gaps: so many unusable entries, then the entry; so many at the end -/
def gap : Nat → List CpInfo → List CpInfo
  | 0, r => r
  | n + 1, r => .unusable :: gap n r
def poolList (es : List (Nat × CpInfo)) (last : Nat) : List CpInfo := es.foldr (fun e r => gap e.1 (e.2 :: r)) (gap last [])
def pool (es : List (Nat × CpInfo)) (last : Nat) : Array CpInfo := ⟨poolList es last⟩
def fileOf (pool : Array CpInfo) (this : Nat) (attrs : Array Attribute := #[]) (ms : Array MethodInfo := #[]) (fl : Nat := 33) (sup : Nat := 0) (ifs : Array Nat := #[]) (fds : Array FieldInfo := #[]) : ClassFile where
  minorVersion := 0
  majorVersion := 65
  constantPool := pool
  accessFlags := fl
  thisClass := this
  superClass := sup
  interfaces := ifs
  fields := fds
  methods := ms
  attributes := attrs
def plain (name : String) (sup : Option ClassId) : Class where
  name := name
  kind := .ordinary
  loader := none
  accessFlags := 33
  super := sup
  interfaces := #[]
  cf := none
  fields := #[]
  methods := #[]
  instanceTypes := #[]
  staticTypes := #[]
  resolved := #[]
  callSites := []
  init := .initialized
  statics := none
  mirror := none

def pool0 : Array CpInfo := pool [(5, u "<init>"), (0, u "()V"), (1, .class_ 10), (1, u "java/lang/Object")] 113

def k0c0 : Code := { maxStack := 0, maxLocals := 1, code := object_method_1_code, exceptionTable := #[], attributes := #[] }
def k0m0 : Method := { name := "<init>", desc := "()V", sig := { parameters := [], returnType := none }, accessFlags := 1, code := some k0c0 }
/-- java/lang/Object -/
def k0 : Class := { plain "java/lang/Object" none with
  accessFlags := 33
  interfaces := #[]
  cf := some (fileOf pool0 8 #[] #[{ accessFlags := 1, nameIndex := 5, descriptorIndex := 6, attributes := #[] }] 33 0 #[] #[])
  fields := #[]
  methods := #[k0m0]
  instanceTypes := #[]
  staticTypes := #[]
  resolved := Array.replicate 124 none
  statics := none }

def pool1 : Array CpInfo := pool [(2, .class_ 4), (1, u "java/lang/Object"), (0, u "<init>"), (0, u "()V"), (2, .integer 2147483647), (0, .integer 2147483646), (0, .class_ 12), (0, u "com/example/fetch_plan/fetchplan/Page"), (0, .methodref 11 14), (0, .nameAndType 5 15), (0, u "(II)V"), (0, .methodref 11 17), (0, .nameAndType 18 19), (0, u "keepsAll"), (0, u "()Z"), (0, .class_ 21), (0, u "com/example/fetch_plan/fetchplan/PageKeepsAllPinLaw"), (2, u "law"), (0, u "(III)Z")] 3

def k1m0 : Method := { name := "<init>", desc := "()V", sig := { parameters := [], returnType := none }, accessFlags := 1, code := none }
def k1c1 : Code := { maxStack := 4, maxLocals := 7, code := code, exceptionTable := #[], attributes := #[] }
def k1m1 : Method := { name := "law", desc := "(III)Z", sig := { parameters := [.int, .int, .int], returnType := some .boolean }, accessFlags := 9, code := some k1c1 }
/-- com/example/fetch_plan/fetchplan/PageKeepsAllPinLaw -/
def k1 : Class := { plain "com/example/fetch_plan/fetchplan/PageKeepsAllPinLaw" (some 0) with
  accessFlags := 49
  interfaces := #[]
  cf := some (fileOf pool1 20 #[] #[{ accessFlags := 1, nameIndex := 5, descriptorIndex := 6, attributes := #[] }, { accessFlags := 9, nameIndex := 24, descriptorIndex := 25, attributes := #[] }] 49 2 #[] #[])
  fields := #[]
  methods := #[k1m0, k1m1]
  instanceTypes := #[]
  staticTypes := #[]
  resolved := Array.replicate 29 none
  statics := none }

def pool2 : Array CpInfo := pool [(1, .methodref 2 3), (0, .class_ 4), (0, .nameAndType 5 6), (0, u "java/lang/Object"), (0, u "<init>"), (0, u "()V"), (0, .class_ 8), (0, u "java/lang/Record")] 13

def k2c0 : Code := { maxStack := 1, maxLocals := 1, code := jdk_30_method_1_code, exceptionTable := #[], attributes := #[] }
def k2m0 : Method := { name := "<init>", desc := "()V", sig := { parameters := [], returnType := none }, accessFlags := 4, code := some k2c0 }
/-- java/lang/Record -/
def k2 : Class := { plain "java/lang/Record" (some 0) with
  accessFlags := 1057
  interfaces := #[]
  cf := some (fileOf pool2 7 #[] #[{ accessFlags := 4, nameIndex := 5, descriptorIndex := 6, attributes := #[] }] 1057 2 #[] #[])
  fields := #[]
  methods := #[k2m0]
  instanceTypes := #[]
  staticTypes := #[]
  resolved := Array.replicate 22 none
  statics := none }

def pool3 : Array CpInfo := pool [(3, .methodref 4 5), (0, .class_ 6), (0, .nameAndType 7 8), (0, u "java/lang/Record"), (0, u "<init>"), (0, u "()V"), (0, .fieldref 10 11), (0, .class_ 12), (0, .nameAndType 13 14), (0, u "com/example/fetch_plan/fetchplan/Page"), (0, u "first"), (0, u "I"), (0, .fieldref 10 16), (0, .nameAndType 17 14), (0, u "max"), (0, .integer 2147483647), (2, u "keepsAll"), (0, u "()Z"), (31, u "(II)V"), (2, u "ALL"), (0, u "Lcom/example/fetch_plan/fetchplan/Page;"), (0, u "NO_LIMIT")] 36

def k3c0 : Code := { maxStack := 2, maxLocals := 3, code := prog_6_method_1_code, exceptionTable := #[], attributes := #[] }
def k3m0 : Method := { name := "<init>", desc := "(II)V", sig := { parameters := [.int, .int], returnType := none }, accessFlags := 0, code := some k3c0 }
def k3c1 : Code := { maxStack := 2, maxLocals := 1, code := prog_6_method_2_code, exceptionTable := #[], attributes := #[] }
def k3m1 : Method := { name := "keepsAll", desc := "()Z", sig := { parameters := [], returnType := some .boolean }, accessFlags := 0, code := some k3c1 }
/-- com/example/fetch_plan/fetchplan/Page -/
def k3 : Class := { plain "com/example/fetch_plan/fetchplan/Page" (some 2) with
  accessFlags := 48
  interfaces := #[]
  cf := some (fileOf pool3 10 #[] #[{ accessFlags := 0, nameIndex := 7, descriptorIndex := 54, attributes := #[] }, { accessFlags := 0, nameIndex := 21, descriptorIndex := 22, attributes := #[] }] 48 4 #[] #[{ accessFlags := 18, nameIndex := 13, descriptorIndex := 14, attributes := #[] }, { accessFlags := 18, nameIndex := 17, descriptorIndex := 14, attributes := #[] }, { accessFlags := 24, nameIndex := 59, descriptorIndex := 14, attributes := #[] }, { accessFlags := 24, nameIndex := 57, descriptorIndex := 58, attributes := #[] }])
  fields := #[{ name := "first", type := .int, accessFlags := 18, slot := 0, constantValue := 0 }, { name := "max", type := .int, accessFlags := 18, slot := 1, constantValue := 0 }, { name := "NO_LIMIT", type := .int, accessFlags := 24, slot := 0, constantValue := 0 }, { name := "ALL", type := (.object "com/example/fetch_plan/fetchplan/Page"), accessFlags := 24, slot := 1, constantValue := 0 }]
  methods := #[k3m0, k3m1]
  instanceTypes := #[.int, .int]
  staticTypes := #[.int, (.object "com/example/fetch_plan/fetchplan/Page")]
  resolved := Array.replicate 96 none
  statics := none }

def pool4 : Array CpInfo := pool [(1, u "java/lang/Cloneable"), (0, .class_ 1), (0, u "java/lang/Object"), (0, .class_ 3)] 3

/-- java/lang/Cloneable -/
def k4 : Class := { plain "java/lang/Cloneable" (some 0) with
  accessFlags := 1537
  interfaces := #[]
  cf := some (fileOf pool4 2 #[] #[] 1537 4 #[] #[])
  fields := #[]
  methods := #[]
  instanceTypes := #[]
  staticTypes := #[]
  resolved := Array.replicate 8 none
  statics := none }

def pool5 : Array CpInfo := pool [(1, u "java/io/Serializable"), (0, .class_ 1), (0, u "java/lang/Object"), (0, .class_ 3)] 3

/-- java/io/Serializable -/
def k5 : Class := { plain "java/io/Serializable" (some 0) with
  accessFlags := 1537
  interfaces := #[]
  cf := some (fileOf pool5 2 #[] #[] 1537 4 #[] #[])
  fields := #[]
  methods := #[]
  instanceTypes := #[]
  staticTypes := #[]
  resolved := Array.replicate 8 none
  statics := none }

/-- the primitive byte -/
def k6 : Class := { plain "byte" none with kind := .primitive 'B', accessFlags := 0x411 }
/-- [B -/
def k7 : Class := { plain "[B" (some 0) with kind := .array 6 .byte, interfaces := #[4, 5], accessFlags := 1041 }

/-- the primitive int -/
def k8 : Class := { plain "int" none with kind := .primitive 'I', accessFlags := 0x411 }
/-- [I -/
def k9 : Class := { plain "[I" (some 0) with kind := .array 8 .int, interfaces := #[4, 5], accessFlags := 1041 }

def heap : Heap := #[]
def classes : Array Class := #[k0, k1, k2, k3, k4, k5, k6, k7, k8, k9]
def interned : List (Array UInt16 × Addr) := []
def slotsUsed : Nat := 0
def theMethod : MethodId := ⟨1, 1⟩
def args0 : Array Value := #[.int 3, .int 4, .int 0]
def aboutOver (below : List Frame) : State where
  vm := { classes := classes, interned := interned.toArray }
  heap := heap
  slotsUsed := slotsUsed
  threads := #[{ frames := .invoking theMethod args0 :: below }]
def below0 : List Frame := [.native { method := ⟨0, 0⟩, args := #[] }]
def about1 : State := aboutOver below0
def p0 : Program := .bare "" "" ""
def e0 : Env := launch0.env 0 0 0
theorem w_frames : about1.frames = Frame.invoking theMethod args0 :: below0 := rfl
set_option maxRecDepth 65536 in
theorem w_args : argsFit about1.vm theMethod args0 = true := by decide +kernel
set_option maxRecDepth 65536 in
theorem w_heap : heapFits about1 = true := by decide +kernel
set_option maxRecDepth 65536 in
theorem w_runnable : about1.curStatus? = some .runnable := by decide +kernel
set_option maxRecDepth 65536 in
theorem w_alone : about1.alone = true := by decide +kernel
set_option maxRecDepth 65536 in
theorem w_named : about1.methodNamed? x = some theMethod := by decide +kernel
set_option maxRecDepth 65536 in
theorem w_hears : about1.hears theMethod below0 = true := by decide +kernel
set_option maxRecDepth 65536 in
theorem w_ripe : about1.ripe theMethod args0 below0 = true := by decide +kernel
theorem w_running : about1.status = .running := rfl
set_option maxRecDepth 65536 in
theorem w_room : about1.hasRoom e0.platform room_1 = true :=
  launch0.hasRoom_least _ room_1 (by decide +kernel) (by decide +kernel) (by decide +kernel) (by decide +kernel) (by decide +kernel) (by decide +kernel)
theorem allAtoms_all (ts : List Jvm.Cond) (a : Array Jvm.Value) (st : Jvm.State) : (allAtoms ts).before a st = ts.all (fun c => c.before a st) := by
  induction ts with
  | nil => rfl
  | cons c t ih =>
    show (Jvm.Cond.and c (allAtoms t)).before a st = _
    rw [Jvm.Cond.before_and, ih, List.all_cons]
def words1 : List Jvm.Cond := Jvm.Cond.code x code maxLocals ret :: tables_1
/-- a 'code' word, met by the world's own term for the bytes: nothing is compared byte by byte -/
theorem code_word {y : MethodName} {bytes : ByteArray} {mx : Nat} {rt : Option FieldType} {a : Array Value} {s : State} {m : MethodId} {meth : Method} {c : Code} (h1 : s.methodNamed? y = some m) (h2 : s.vm.method? m = some meth) (h3 : meth.code = some c) (h4 : c.code = bytes)
    (h5 : (c.maxLocals == mx && c.exceptionTable.isEmpty && decide (c.maxStack ≤ mostOperands) && decide (meth.sig.returnType = rt) && !meth.locks && decide (parseMethodDescriptor y.desc = some meth.sig)) = true) : (Jvm.Cond.code y bytes mx rt).before a s = true := by
  simp only [Bool.and_eq_true, beq_iff_eq, Bool.not_eq_true', decide_eq_true_eq] at h5
  obtain ⟨⟨⟨⟨⟨g1, g2⟩, g3⟩, g4⟩, g5⟩, g6⟩ := h5
  simp [Cond.before, Cond.holds, Cond.value, h1, h2, h3, h4, g1, g2, g3, g4, g5, g6]
def isCode : Jvm.Cond → Bool
  | .code _ _ _ _ => true
  | _ => false
theorem all_split {L : List Jvm.Cond} {P : Jvm.Cond → Bool} (h1 : L.all (fun c => isCode c || P c) = true) (h2 : ∀ c ∈ L.filter isCode, P c = true) : L.all P = true := by
  refine List.all_eq_true.mpr fun c hc => ?_
  have h := List.all_eq_true.mp h1 c hc
  rcases Bool.eq_false_or_eq_true (isCode c) with hi | hi
  · exact h2 c (List.mem_filter.mpr ⟨hc, hi⟩)
  · simpa [hi] using h
set_option maxRecDepth 65536 in
theorem w_c0 : (Jvm.Cond.code x code maxLocals ret).before args0 about1 = true := code_word (m := ⟨1, 1⟩) (meth := k1m1) (c := k1c1) (by decide +kernel) rfl rfl rfl (by decide +kernel)
set_option maxRecDepth 65536 in
theorem w_c1 : (Jvm.Cond.code ({ cls := "com/example/fetch_plan/fetchplan/Page", name := "<init>", desc := "(II)V" } : Jvm.MethodName) prog_6_method_1_code (3 : Nat) (Option.none : Option Jvm.ClassFile.FieldType)).before args0 about1 = true := code_word (m := ⟨3, 0⟩) (meth := k3m0) (c := k3c0) (by decide +kernel) rfl rfl rfl (by decide +kernel)
set_option maxRecDepth 65536 in
theorem w_c2 : (Jvm.Cond.code ({ cls := "java/lang/Record", name := "<init>", desc := "()V" } : Jvm.MethodName) jdk_30_method_1_code (1 : Nat) (Option.none : Option Jvm.ClassFile.FieldType)).before args0 about1 = true := code_word (m := ⟨2, 0⟩) (meth := k2m0) (c := k2c0) (by decide +kernel) rfl rfl rfl (by decide +kernel)
set_option maxRecDepth 65536 in
theorem w_c3 : (Jvm.Cond.code ({ cls := "java/lang/Object", name := "<init>", desc := "()V" } : Jvm.MethodName) object_method_1_code (1 : Nat) (Option.none : Option Jvm.ClassFile.FieldType)).before args0 about1 = true := code_word (m := ⟨0, 0⟩) (meth := k0m0) (c := k0c0) (by decide +kernel) rfl rfl rfl (by decide +kernel)
set_option maxRecDepth 65536 in
theorem w_c4 : (Jvm.Cond.code ({ cls := "com/example/fetch_plan/fetchplan/Page", name := "keepsAll", desc := "()Z" } : Jvm.MethodName) prog_6_method_2_code (1 : Nat) (Option.some Jvm.ClassFile.FieldType.boolean)).before args0 about1 = true := code_word (m := ⟨3, 1⟩) (meth := k3m1) (c := k3c1) (by decide +kernel) rfl rfl rfl (by decide +kernel)
def codes1 : List Jvm.Cond := [Jvm.Cond.code x code maxLocals ret, Jvm.Cond.code ({ cls := "com/example/fetch_plan/fetchplan/Page", name := "<init>", desc := "(II)V" } : Jvm.MethodName) prog_6_method_1_code (3 : Nat) (Option.none : Option Jvm.ClassFile.FieldType), Jvm.Cond.code ({ cls := "java/lang/Record", name := "<init>", desc := "()V" } : Jvm.MethodName) jdk_30_method_1_code (1 : Nat) (Option.none : Option Jvm.ClassFile.FieldType), Jvm.Cond.code ({ cls := "java/lang/Object", name := "<init>", desc := "()V" } : Jvm.MethodName) object_method_1_code (1 : Nat) (Option.none : Option Jvm.ClassFile.FieldType), Jvm.Cond.code ({ cls := "com/example/fetch_plan/fetchplan/Page", name := "keepsAll", desc := "()Z" } : Jvm.MethodName) prog_6_method_2_code (1 : Nat) (Option.some Jvm.ClassFile.FieldType.boolean)]
set_option maxRecDepth 65536 in
theorem codes_eq : words1.filter isCode = codes1 := rfl
theorem w_codes : ∀ c ∈ words1.filter isCode, c.before args0 about1 = true := by
  rw [codes_eq]
  intro c hc
  simp only [codes1, List.mem_cons, List.not_mem_nil, or_false] at hc
  rcases hc with rfl | rfl | rfl | rfl | rfl
  · exact w_c0
  · exact w_c1
  · exact w_c2
  · exact w_c3
  · exact w_c4
set_option maxRecDepth 65536 in
theorem w_t1 : (words1.take 24).all (fun c => isCode c || c.before args0 about1) = true := by decide +kernel
set_option maxRecDepth 65536 in
theorem w_t2 : (words1.drop 24).all (fun c => isCode c || c.before args0 about1) = true := by decide +kernel
theorem w_tables : (allAtoms (Jvm.Cond.code x code maxLocals ret :: tables_1)).before args0 about1 = true := by
  rw [allAtoms_all]
  show words1.all (fun c => c.before args0 about1) = true
  refine all_split ?_ w_codes
  rw [← List.take_append_drop 24 words1, List.all_append, w_t1, w_t2]
  rfl
set_option maxRecDepth 65536 in
theorem w_case : (Jvm.Cond.and given_1 narrow_1).before args0 about1 = true := by decide +kernel
theorem w_applies : (headSpec (Jvm.Cond.code x code maxLocals ret :: tables_1) room_1).applies x e0.platform about1 = true :=
  (Spec.applies_iff w_frames).mpr ⟨w_running, w_runnable, w_alone, w_named, w_hears, w_ripe, w_room, w_tables⟩
theorem atStart : AtStart classFile x code maxLocals ret World_1 tables_1 room_1 Calls_1 rest_1 Pre_1 launch0 p0 e0 about1 theMethod args0 below0 :=
  ⟨lists_1, trivial, launch0.admits_env _ _ _, launch0.least_env, fairChoices_fair.cas, fairChoices_fair.clock, w_frames, w_args, w_heap, w_applies, trivial, trivial, w_case⟩
end start1
theorem witness_1 : WitnessClaimed_1 := ⟨start1.p0, start1.e0, start1.about1, start1.theMethod, start1.args0, start1.below0, start1.atStart⟩
end Jvm.Pilot.@@N@@
