import JvmDerived
import JvmDerived.Pilot.@@N@@Statement
import JvmDerived.Pilot.@@N@@Code
set_option linter.unusedVariables false
set_option linter.unusedSimpArgs false
namespace Jvm.RoadKit
open Sem ClassFile Op Lib Jvm.Stand Jvm.Free Jvm.LawKit
section New
variable {p : Program} {l : Launch} {e : Env} {R : Room} {s : State} {m : MethodId} {args : Array Value} {below : List Frame} {meth : Method} {c : Code} {T : State} {locs : List Loc} {cells slots : Nat}
theorem retI (X : Stand p l e R s m args below meth c T locs cells slots) (hx : p.tables.exec = Jvm.exec) {pc : Nat} {Ls : Array Slot} {z : Int32} {rest : List Value} (hret : meth.sig.returnType = some .int) (hd : decode c.code pc = .ok (.ireturn, 1)) {fs : List Frame}
    (hl : ∀ (f : JFrame) (acts : List Action), f.method = m → f.locked = none → f.entered = [] → (doReturn e (T.setTop f) acts (some (.int z))).1 = T.setFrames fs) : Steps p.tables e below (T.setTop (mkF m pc Ls (.int z :: rest))) (T.setFrames fs) := by
  have hm' : T.vm.method? m = some meth := X.method'
  have hn : narrow .int (.int z) = .int z := rfl
  show Steps p.tables e below (T.setTop { method := m, pc := pc, locals := Ls, stack := _ :: rest, locked := none }) _
  jvm_step X.here [X.here.top, hx, hd, hm', hret, hn]
  first | (intro acts; rw [hl _ acts rfl rfl rfl]) | rw [hl _ _ rfl rfl rfl]
  exact Steps.refl _
end New
end Jvm.RoadKit
namespace Jvm.Pilot.@@N@@
open Jvm Jvm.ClassFile Sem Op Lib Jvm.Free Jvm.Stand Jvm.LawKit Jvm.RoadKit Bundle Jvm.Pilot.@@N@@.Jvm.D
theorem own_pn0 : plainName "java/lang/Record" = true := by first | (simp [plainName, overriddenIn]; done) | decide +kernel
theorem own_pd4 : parseMethodDescriptor "()V" = some ⟨[], none⟩ := by decide +kernel
theorem own_pn5 : plainName "com/example/fetch_plan/fetchplan/Page" = true := by first | (simp [plainName, overriddenIn]; done) | decide +kernel
theorem own_pn26 : plainName "java/util/List" = true := by first | (simp [plainName, overriddenIn]; done) | decide +kernel
theorem own_pn29 : plainName "java/util/ImmutableCollections$ListN" = true := by first | (simp [plainName, overriddenIn]; done) | decide +kernel
theorem own_pn34 : plainName "java/util/Objects" = true := by first | (simp [plainName, overriddenIn]; done) | decide +kernel
theorem own_pn39 : plainName "java/util/AbstractCollection" = true := by first | (simp [plainName, overriddenIn]; done) | decide +kernel
theorem own_pn43 : plainName "java/util/ImmutableCollections$AbstractImmutableCollection" = true := by first | (simp [plainName, overriddenIn]; done) | decide +kernel
theorem own_pn47 : plainName "java/util/ImmutableCollections$AbstractImmutableList" = true := by first | (simp [plainName, overriddenIn]; done) | decide +kernel
theorem own_pd51 : parseMethodDescriptor "(Ljava/lang/Object;)Ljava/lang/Object;" = some ⟨[(.object "java/lang/Object")], some (.object "java/lang/Object")⟩ := by decide +kernel
theorem own_pn52 : plainName "java/util/ImmutableCollections$List12" = true := by first | (simp [plainName, overriddenIn]; done) | decide +kernel
theorem own_pd64 : parseMethodDescriptor "(Ljava/lang/Object;Ljava/lang/Object;)V" = some ⟨[(.object "java/lang/Object"), (.object "java/lang/Object")], none⟩ := by decide +kernel
theorem own_pn71 : plainName "java/lang/Number" = true := by first | (simp [plainName, overriddenIn]; done) | decide +kernel
theorem own_pn75 : plainName "java/lang/Integer" = true := by first | (simp [plainName, overriddenIn]; done) | decide +kernel
theorem own_pd82 : parseMethodDescriptor "(I)V" = some ⟨[.int], none⟩ := by decide +kernel
theorem own_pd100 : parseMethodDescriptor "()Z" = some ⟨[], some .boolean⟩ := by decide +kernel
theorem own_pd101 : parseMethodDescriptor "()Ljava/util/List;" = some ⟨[], some (.object "java/util/List")⟩ := by decide +kernel
theorem own_pd108 : parseMethodDescriptor "(I)Ljava/lang/Integer;" = some ⟨[.int], some (.object "java/lang/Integer")⟩ := by decide +kernel
theorem own_pd109 : parseMethodDescriptor "(Ljava/lang/Object;Ljava/lang/Object;)Ljava/util/List;" = some ⟨[(.object "java/lang/Object"), (.object "java/lang/Object")], some (.object "java/util/List")⟩ := by decide +kernel
theorem own_pd142 : parseMethodDescriptor "(II)V" = some ⟨[.int, .int], none⟩ := by decide +kernel
theorem own_pd143 : parseMethodDescriptor "()I" = some ⟨[], some .int⟩ := by decide +kernel
theorem own_pd144 : parseMethodDescriptor "(I)Ljava/lang/Object;" = some ⟨[.int], some (.object "java/lang/Object")⟩ := by decide +kernel
theorem own_pn145 : plainName "com/example/fetch_plan/fetchplan/PageParametersPinLaw" = true := by first | (simp [plainName, overriddenIn]; done) | decide +kernel
theorem own_back (p : Int32) : (p + (128 : Int32)) - 128 = p := by
  apply Int32.toInt_inj.mp
  have h1 := c_isub (p + 128) 128
  have h2 := c_iadd p 128
  have r1 := rng32 p
  have r2 := rng32 (p + 128)
  have r3 := rng32 (p + 128 - 128)
  omega
theorem own_cin (p : Int32) (h1 : ¬ p < (-128 : Int32)) (h2 : ¬ (127 : Int32) < p) : ¬ (p + (128 : Int32)) < 0 ∧ (p + (128 : Int32)) < 256 := by
  have h3 := c_iadd p 128
  have r2 := rng32 (p + 128)
  rw [Int32.lt_iff_toInt_lt, show (-128 : Int32).toInt = -128 from by decide] at h1
  rw [Int32.lt_iff_toInt_lt, show (127 : Int32).toInt = 127 from by decide] at h2
  rw [show (128 : Int32).toInt = 128 from by decide] at h3
  rw [Int32.lt_iff_toInt_lt, Int32.lt_iff_toInt_lt, show (0 : Int32).toInt = 0 from by decide, show (256 : Int32).toInt = 256 from by decide]
  omega
-- body 2
theorem own_d2_0 : decode jdk_30_method_1_code 0 = .ok (.aload_n 0, 1) := by decide +kernel
theorem own_d2_1 : decode jdk_30_method_1_code 1 = .ok (.invokespecial 1, 3) := by decide +kernel
theorem own_d2_4 : decode jdk_30_method_1_code 4 = .ok (.return_, 1) := by decide +kernel
theorem own_ef2 (m : MethodId) (x0 : Addr) : entryFrame m #[(.ref x0)] 1 = mkF m 0 #[.val (.ref x0)] [] := by first | (simp [entryFrame, mkF, argsToLocals, Value.category]; done) | rfl
def own_Q2 (Z : State) (a1 : Addr) (h0 : Heap) (n0 : Nat) (v : Option Value) (h : Heap) (L : List Loc) : Prop := v = none ∧ Fr n0 L ∧ h = h0
set_option maxRecDepth 65536 in
set_option maxHeartbeats 40000000 in
theorem own_rm2 (l : Launch) (Z : State) (a0 : Array Value) (hw : ∀ d ∈ tables_1, d.before a0 Z = true) (ws : List Jvm.Cond) (a1 : Addr) (h0 : Heap) (n0 : Nat) (Z0 : n0 ≤ h0.size) :
    MetFree l (⟨"java/lang/Record", "<init>", "()V"⟩ : MethodName) (head1 (Jvm.Cond.code (⟨"java/lang/Record", "<init>", "()V"⟩ : MethodName) jdk_30_method_1_code 1 none :: ws) ({ frames := 1, cells := 0, slots := 0, locals := 12 } : Room)) (fun a U => a = #[(.ref a1)] ∧ Z.Warmed39 U.vm ∧ U.heap = h0) (fun _ _ _ _ _ => True) (fun _ U o U' => ∃ v L, o = .returned v ∧ own_Q2 Z a1 h0 n0 v U'.heap L ∧ FrameEnd U o U' L ({ frames := 1, cells := 0, slots := 0, locals := 12 } : Room).cells ({ frames := 1, cells := 0, slots := 0, locals := 12 } : Room).slots) := by
  refine MetFree.of_bodySF (plainFor_of_name own_pn0) hisR ?_
  intro p e s m args below meth c s₁ Bd hml0 hP hK
  obtain ⟨rfl, hZ, hh⟩ := hP
  have hx := Bd.exec
  have hby := Bd.bytes
  have hml : c.maxLocals = 1 := hml0
  have hown : s.vm.findClass "java/lang/Record" = some m.cls := findClass_of_methodNamed Bd.named
  have hnm := (name_of_methodNamed Bd.named Bd.method).1
  have X0 : Stand p l e ({ frames := 1, cells := 0, slots := 0, locals := 12 } : Room) s m #[(.ref a1)] below meth c s₁ [] 0 0 := Stand.of_body Bd
  have hS0 : s.Since s.vm 0 := (State.WarmedH.refl s).since 0
  have hk0 : 0 ≤ h0.size := Nat.zero_le _
  have hlk := Bd.notSynchronized
  have e0 : s₁.heap = h0 := by rw [← hh, Bd.state]; rfl
  have N0 := Fr.nil n0
  have pre0 : ∀ t, Steps p.tables e below (s₁.setTop (mkF m 0 #[.val (.ref a1)] [])) t → Steps p.tables e below (s₁.setTop (entryFrame m #[(.ref a1)] 1)) t := fun t k => castTop (own_ef2 m a1) k
  obtain ⟨T1, X1, e1, st1⟩ := initO X0 hx hZ hown (hw _ (List.mem_of_getElem? (i := 12) rfl)) (hw _ (List.mem_of_getElem? (i := 13) rfl)) (hw _ (List.mem_of_getElem? (i := 14) rfl)) e0 (g := (mkF m 1 #[.val (.ref a1)] [(.ref a1)])) rfl (by rw [hml]; rfl) rfl (hb hby own_d2_1) (by decide) (W := 0) (by show 2 * 0 + _ ≤ _; exact Nat.le_of_eq rfl) (by decide)
  obtain ⟨fs, hr, hrun, hended, hW, hsame⟩ := X1.leave (hlocks := hlk) (v := none) (fun _ => rfl)
  refine ⟨_, _, pre0 _ ?_, hrun, hended, _, _, rfl, ?_, ⟨_, rfl⟩, hW, hsame.mono (by decide) (by decide)⟩
  · show Steps p.tables e below (s₁.setTop (mkF m 0 #[.val (.ref a1)] [])) _
    refine XS.aloadN X0.here hx rfl (hb hby own_d2_0) rfl rfl ?_
    show Steps p.tables e below (s₁.setTop (mkF m 1 #[.val (.ref a1)] [(.ref a1)])) _
    refine st1 _ ?_
    show Steps p.tables e below (T1.setTop (mkF m 4 #[.val (.ref a1)] [])) _
    exact X1.returnOut hx Bd.returns (hb hby own_d2_4) hr
  · show own_Q2 Z a1 h0 n0 _ T1.heap _
    rw [e1]
    exact ⟨rfl, N0, rfl⟩
-- body 1
theorem own_d1_0 : decode prog_6_method_1_code 0 = .ok (.aload_n 0, 1) := by decide +kernel
theorem own_d1_1 : decode prog_6_method_1_code 1 = .ok (.invokespecial 3, 3) := by decide +kernel
theorem own_d1_4 : decode prog_6_method_1_code 4 = .ok (.aload_n 0, 1) := by decide +kernel
theorem own_d1_5 : decode prog_6_method_1_code 5 = .ok (.iload_n 1, 1) := by decide +kernel
theorem own_d1_6 : decode prog_6_method_1_code 6 = .ok (.putfield 9, 3) := by decide +kernel
theorem own_d1_9 : decode prog_6_method_1_code 9 = .ok (.aload_n 0, 1) := by decide +kernel
theorem own_d1_10 : decode prog_6_method_1_code 10 = .ok (.iload_n 2, 1) := by decide +kernel
theorem own_d1_11 : decode prog_6_method_1_code 11 = .ok (.putfield 15, 3) := by decide +kernel
theorem own_d1_14 : decode prog_6_method_1_code 14 = .ok (.return_, 1) := by decide +kernel
theorem own_ef1 (m : MethodId) (x0 : Addr) (x1 : Int32) (x2 : Int32) : entryFrame m #[(.ref x0), (.int x1), (.int x2)] 3 = mkF m 0 #[.val (.ref x0), .val (.int x1), .val (.int x2)] [] := by first | (simp [entryFrame, mkF, argsToLocals, Value.category]; done) | rfl
def own_Q1 (Z : State) (a1 : Addr) (p2 : Int32) (p3 : Int32) (w_first_a1 : Int32) (w_max_a1 : Int32) (h0 : Heap) (n0 : Nat) (v : Option Value) (h : Heap) (L : List Loc) : Prop := v = none ∧ Fr n0 L ∧ Keep h0 h [a1] ∧ Exa Z h a1 "com/example/fetch_plan/fetchplan/Page" ∧ Fld Z h a1 "com/example/fetch_plan/fetchplan/Page" "first" "I" (.int p2) ∧ Fld Z h a1 "com/example/fetch_plan/fetchplan/Page" "max" "I" (.int p3)
set_option maxRecDepth 65536 in
set_option maxHeartbeats 40000000 in
theorem own_rm1 (l : Launch) (Z : State) (a0 : Array Value) (hw : ∀ d ∈ tables_1, d.before a0 Z = true) (ws : List Jvm.Cond) (a1 : Addr) (p2 : Int32) (p3 : Int32) (w_first_a1 : Int32) (w_max_a1 : Int32) (h0 : Heap) (n0 : Nat) (Z0 : n0 ≤ h0.size) (E_a1 : Exa Z h0 a1 "com/example/fetch_plan/fetchplan/Page") (F_first_a1 : Fld Z h0 a1 "com/example/fetch_plan/fetchplan/Page" "first" "I" (.int w_first_a1)) (g_a1 : n0 ≤ a1) (F_max_a1 : Fld Z h0 a1 "com/example/fetch_plan/fetchplan/Page" "max" "I" (.int w_max_a1)) :
    MetFree l (⟨"com/example/fetch_plan/fetchplan/Page", "<init>", "(II)V"⟩ : MethodName) (head1 (Jvm.Cond.code (⟨"com/example/fetch_plan/fetchplan/Page", "<init>", "(II)V"⟩ : MethodName) prog_6_method_1_code 3 none :: ws) ({ frames := 2, cells := 0, slots := 0, locals := 24 } : Room)) (fun a U => a = #[(.ref a1), (.int p2), (.int p3)] ∧ Z.Warmed39 U.vm ∧ U.heap = h0) (fun _ _ _ _ _ => True) (fun _ U o U' => ∃ v L, o = .returned v ∧ own_Q1 Z a1 p2 p3 w_first_a1 w_max_a1 h0 n0 v U'.heap L ∧ FrameEnd U o U' L ({ frames := 2, cells := 0, slots := 0, locals := 24 } : Room).cells ({ frames := 2, cells := 0, slots := 0, locals := 24 } : Room).slots) := by
  refine MetFree.of_bodySF (plainFor_of_name own_pn5) hisR ?_
  intro p e s m args below meth c s₁ Bd hml0 hP hK
  obtain ⟨rfl, hZ, hh⟩ := hP
  have hx := Bd.exec
  have hby := Bd.bytes
  have hml : c.maxLocals = 3 := hml0
  have hown : s.vm.findClass "com/example/fetch_plan/fetchplan/Page" = some m.cls := findClass_of_methodNamed Bd.named
  have hnm := (name_of_methodNamed Bd.named Bd.method).1
  have X0 : Stand p l e ({ frames := 2, cells := 0, slots := 0, locals := 24 } : Room) s m #[(.ref a1), (.int p2), (.int p3)] below meth c s₁ [] 0 0 := Stand.of_body Bd
  have hS0 : s.Since s.vm 0 := (State.WarmedH.refl s).since 0
  have hk0 : 0 ≤ h0.size := Nat.zero_le _
  have hlk := Bd.notSynchronized
  have e0 : s₁.heap = h0 := by rw [← hh, Bd.state]; rfl
  have N0 := Fr.nil n0
  have pre0 : ∀ t, Steps p.tables e below (s₁.setTop (mkF m 0 #[.val (.ref a1), .val (.int p2), .val (.int p3)] [])) t → Steps p.tables e below (s₁.setTop (entryFrame m #[(.ref a1), (.int p2), (.int p3)] 3)) t := fun t k => castTop (own_ef1 m a1 p2 p3) k
  obtain ⟨v1, _, ⟨T1, L1, k1, n1⟩, -, X1, ⟨Lc1, hQ1, l1, y1, z1⟩, st1⟩ := X0.specialBack hx (y := (⟨"java/lang/Record", "<init>", "()V"⟩ : MethodName)) rfl hown (mvT hZ (hw _ (List.mem_of_getElem? (i := 7) rfl))) (mvT hZ (hw _ (List.mem_of_getElem? (i := 8) rfl))) (mvT hZ (hw _ (List.mem_of_getElem? (i := 11) rfl))) (by decide) (backOf (W := 0) (own_rm2 l Z a0 hw [] a1 h0 n0 Z0) hZ (hw _ (List.mem_of_getElem? (i := 11) rfl)) (hw _ (List.mem_of_getElem? (i := 10) rfl)) (by decide) (by decide)) (g := (mkF m 1 #[.val (.ref a1), .val (.int p2), .val (.int p3)] [(.ref a1)])) rfl (by rw [hml]; rfl) (Steps.refl _) (a := a1) (argsL := []) (rest := []) (lenOf own_pd4 rfl) rfl (by show 2 * 0 + _ ≤ _; exact Nat.le_of_eq rfl) (hb hby own_d1_1) (fun _ _ => ⟨rfl, e0, (by decide : 0 + 0 ≤ _), (by decide : 0 + 0 ≤ _)⟩)
  dsimp only [Pt.U, Pt.locs, Pt.cells, Pt.slots] at X1 l1 y1 z1 st1 hQ1
  subst l1 y1 z1
  obtain ⟨rfl, N1q, e1⟩ := hQ1
  have N2 := Fr.app N0 N1q
  obtain ⟨T3, h3, X3, e3, W3, st3⟩ := putF X1 hx hZ hown (host := "") (Or.inl (hw _ (List.mem_of_getElem? (i := 15) rfl))) Via.refl e1 F_first_a1 E_a1 (Or.inr ⟨(hw _ (List.mem_of_getElem? (i := 16) rfl)), rfl, hnm⟩) (hw _ (List.mem_of_getElem? (i := 2) rfl)) (ty := .int) (by decide) rfl rfl (g := (mkF m 6 #[.val (.ref a1), .val (.int p2), .val (.int p3)] [(.int p2), (.ref a1)])) rfl rfl (hb hby own_d1_6)
  have N4 := Fr.snoc X3 N2 g_a1
  have Z5 := Nat.le_trans Z0 (Keep.of_wr W3).1
  have K6 : Keep h0 h3 [a1] := (Keep.refl h0 _).wr W3 (Or.inl (List.mem_of_getElem? (i := 0) rfl))
  have f7 := E_a1.wr W3
  have f8 := F_first_a1.same W3
  have f9 := F_max_a1.other W3 (Or.inr (slot_ne (Or.inr (hw _ (List.mem_of_getElem? (i := 18) rfl))) (Or.inr (hw _ (List.mem_of_getElem? (i := 16) rfl))) (by decide) (t := .int) (t' := .int) (by decide) (by decide)))
  obtain ⟨T10, h10, X10, e10, W10, st10⟩ := putF X3 hx hZ hown (host := "") (Or.inl (hw _ (List.mem_of_getElem? (i := 17) rfl))) Via.refl e3 f9 f7 (Or.inr ⟨(hw _ (List.mem_of_getElem? (i := 18) rfl)), rfl, hnm⟩) (hw _ (List.mem_of_getElem? (i := 2) rfl)) (ty := .int) (by decide) rfl rfl (g := (mkF m 11 #[.val (.ref a1), .val (.int p2), .val (.int p3)] [(.int p3), (.ref a1)])) rfl rfl (hb hby own_d1_11)
  have N11 := Fr.snoc X10 N4 g_a1
  have Z12 := Nat.le_trans Z5 (Keep.of_wr W10).1
  have K13 : Keep h0 h10 [a1] := K6.wr W10 (Or.inl (List.mem_of_getElem? (i := 0) rfl))
  have f14 := f7.wr W10
  have f15 := f8.other W10 (Or.inr (slot_ne (Or.inr (hw _ (List.mem_of_getElem? (i := 16) rfl))) (Or.inr (hw _ (List.mem_of_getElem? (i := 18) rfl))) (by decide) (t := .int) (t' := .int) (by decide) (by decide)))
  have f16 := f9.same W10
  obtain ⟨fs, hr, hrun, hended, hW, hsame⟩ := X10.leave (hlocks := hlk) (v := none) (fun _ => rfl)
  refine ⟨_, _, pre0 _ ?_, hrun, hended, _, _, rfl, ?_, ⟨_, rfl⟩, hW, hsame.mono (by decide) (by decide)⟩
  · show Steps p.tables e below (s₁.setTop (mkF m 0 #[.val (.ref a1), .val (.int p2), .val (.int p3)] [])) _
    refine XS.aloadN X0.here hx rfl (hb hby own_d1_0) rfl rfl ?_
    show Steps p.tables e below (s₁.setTop (mkF m 1 #[.val (.ref a1), .val (.int p2), .val (.int p3)] [(.ref a1)])) _
    refine st1.trans ?_
    show Steps p.tables e below (T1.setTop (mkF m 4 #[.val (.ref a1), .val (.int p2), .val (.int p3)] [])) _
    refine XS.aloadN X1.here hx rfl (hb hby own_d1_4) rfl rfl ?_
    show Steps p.tables e below (T1.setTop (mkF m 5 #[.val (.ref a1), .val (.int p2), .val (.int p3)] [(.ref a1)])) _
    refine XS.iloadN X1.here hx rfl (hb hby own_d1_5) rfl ?_
    show Steps p.tables e below (T1.setTop (mkF m 6 #[.val (.ref a1), .val (.int p2), .val (.int p3)] [(.int p2), (.ref a1)])) _
    refine st3 _ ?_
    show Steps p.tables e below (T3.setTop (mkF m 9 #[.val (.ref a1), .val (.int p2), .val (.int p3)] [])) _
    refine XS.aloadN X3.here hx rfl (hb hby own_d1_9) rfl rfl ?_
    show Steps p.tables e below (T3.setTop (mkF m 10 #[.val (.ref a1), .val (.int p2), .val (.int p3)] [(.ref a1)])) _
    refine XS.iloadN X3.here hx rfl (hb hby own_d1_10) rfl ?_
    show Steps p.tables e below (T3.setTop (mkF m 11 #[.val (.ref a1), .val (.int p2), .val (.int p3)] [(.int p3), (.ref a1)])) _
    refine st10 _ ?_
    show Steps p.tables e below (T10.setTop (mkF m 14 #[.val (.ref a1), .val (.int p2), .val (.int p3)] [])) _
    exact X10.returnOut hx Bd.returns (hb hby own_d1_14) hr
  · show own_Q1 Z a1 p2 p3 w_first_a1 w_max_a1 h0 n0 _ T10.heap _
    rw [e10]
    exact ⟨rfl, N11, K13, f14, f15, f16⟩
-- body 5
theorem own_d5_0 : decode prog_6_method_2_code 0 = .ok (.aload_n 0, 1) := by decide +kernel
theorem own_d5_1 : decode prog_6_method_2_code 1 = .ok (.getfield 9, 3) := by decide +kernel
theorem own_d5_4 : decode prog_6_method_2_code 4 = .ok (.ifCond .ne 16, 3) := by decide +kernel
theorem own_d5_7 : decode prog_6_method_2_code 7 = .ok (.aload_n 0, 1) := by decide +kernel
theorem own_d5_8 : decode prog_6_method_2_code 8 = .ok (.getfield 15, 3) := by decide +kernel
theorem own_d5_11 : decode prog_6_method_2_code 11 = .ok (.ldc 18, 2) := by decide +kernel
theorem own_d5_13 : decode prog_6_method_2_code 13 = .ok (.if_icmp .ne 7, 3) := by decide +kernel
theorem own_d5_16 : decode prog_6_method_2_code 16 = .ok (.iconst 1, 1) := by decide +kernel
theorem own_d5_17 : decode prog_6_method_2_code 17 = .ok (.goto 4, 3) := by decide +kernel
theorem own_d5_20 : decode prog_6_method_2_code 20 = .ok (.iconst 0, 1) := by decide +kernel
theorem own_d5_21 : decode prog_6_method_2_code 21 = .ok (.ireturn, 1) := by decide +kernel
theorem own_ef5 (m : MethodId) (x0 : Addr) : entryFrame m #[(.ref x0)] 1 = mkF m 0 #[.val (.ref x0)] [] := by first | (simp [entryFrame, mkF, argsToLocals, Value.category]; done) | rfl
def own_f5 (w_first_a1 : Int32) (w_max_a1 : Int32) : Int32 := if w_first_a1 = (0 : Int32) then (if w_max_a1 = (2147483647 : Int32) then (1 : Int32)
      else (0 : Int32))
    else (0 : Int32)
def own_Q5 (Z : State) (a1 : Addr) (w_first_a1 : Int32) (w_max_a1 : Int32) (h0 : Heap) (n0 : Nat) (v : Option Value) (h : Heap) (L : List Loc) : Prop := v = some (.int (own_f5 w_first_a1 w_max_a1)) ∧ Fr n0 L ∧ h = h0
set_option maxRecDepth 65536 in
set_option maxHeartbeats 40000000 in
theorem own_rm5 (l : Launch) (Z : State) (a0 : Array Value) (hw : ∀ d ∈ tables_1, d.before a0 Z = true) (ws : List Jvm.Cond) (a1 : Addr) (w_first_a1 : Int32) (w_max_a1 : Int32) (h0 : Heap) (n0 : Nat) (Z0 : n0 ≤ h0.size) (F_first_a1 : Fld Z h0 a1 "com/example/fetch_plan/fetchplan/Page" "first" "I" (.int w_first_a1)) (F_max_a1 : Fld Z h0 a1 "com/example/fetch_plan/fetchplan/Page" "max" "I" (.int w_max_a1)) :
    MetFree l (⟨"com/example/fetch_plan/fetchplan/Page", "keepsAll", "()Z"⟩ : MethodName) (head1 (Jvm.Cond.code (⟨"com/example/fetch_plan/fetchplan/Page", "keepsAll", "()Z"⟩ : MethodName) prog_6_method_2_code 1 (some .boolean) :: ws) ({ frames := 0, cells := 0, slots := 0, locals := 0 } : Room)) (fun a U => a = #[(.ref a1)] ∧ Z.Warmed39 U.vm ∧ U.heap = h0) (fun _ _ _ _ _ => True) (fun _ U o U' => ∃ v L, o = .returned v ∧ own_Q5 Z a1 w_first_a1 w_max_a1 h0 n0 v U'.heap L ∧ FrameEnd U o U' L ({ frames := 0, cells := 0, slots := 0, locals := 0 } : Room).cells ({ frames := 0, cells := 0, slots := 0, locals := 0 } : Room).slots) := by
  refine MetFree.of_bodySF (plainFor_of_name own_pn5) hisR ?_
  intro p e s m args below meth c s₁ Bd hml0 hP hK
  obtain ⟨rfl, hZ, hh⟩ := hP
  have hx := Bd.exec
  have hby := Bd.bytes
  have hml : c.maxLocals = 1 := hml0
  have hown : s.vm.findClass "com/example/fetch_plan/fetchplan/Page" = some m.cls := findClass_of_methodNamed Bd.named
  have hnm := (name_of_methodNamed Bd.named Bd.method).1
  have X0 : Stand p l e ({ frames := 0, cells := 0, slots := 0, locals := 0 } : Room) s m #[(.ref a1)] below meth c s₁ [] 0 0 := Stand.of_body Bd
  have hS0 : s.Since s.vm 0 := (State.WarmedH.refl s).since 0
  have hk0 : 0 ≤ h0.size := Nat.zero_le _
  have hlk := Bd.notSynchronized
  have e0 : s₁.heap = h0 := by rw [← hh, Bd.state]; rfl
  have N0 := Fr.nil n0
  have pre0 : ∀ t, Steps p.tables e below (s₁.setTop (mkF m 0 #[.val (.ref a1)] [])) t → Steps p.tables e below (s₁.setTop (entryFrame m #[(.ref a1)] 1)) t := fun t k => castTop (own_ef5 m a1) k
  obtain ⟨T1, X1, e1, st1⟩ := getF X0 hx hZ hown (host := "") (Or.inl (hw _ (List.mem_of_getElem? (i := 15) rfl))) Via.refl e0 F_first_a1 (g := (mkF m 1 #[.val (.ref a1)] [(.ref a1)])) rfl rfl (hb hby own_d5_1)
  have k2 : ∀ t, Steps p.tables e below (T1.setTop (mkF m 4 #[.val (.ref a1)] [(.int w_first_a1)])) t → Steps p.tables e below (s₁.setTop (entryFrame m #[(.ref a1)] 1)) t := by
    intro t kt
    refine pre0 t ?_
    show Steps p.tables e below (s₁.setTop (mkF m 0 #[.val (.ref a1)] [])) _
    refine XS.aloadN X0.here hx rfl (hb hby own_d5_0) rfl rfl ?_
    show Steps p.tables e below (s₁.setTop (mkF m 1 #[.val (.ref a1)] [(.ref a1)])) _
    refine st1 _ ?_
    exact kt
  by_cases hc1 : w_first_a1 = (0 : Int32)
  ·
    obtain ⟨T3, X3, e3, st3⟩ := getF X1 hx hZ hown (host := "") (Or.inl (hw _ (List.mem_of_getElem? (i := 17) rfl))) Via.refl e1 F_max_a1 (g := (mkF m 8 #[.val (.ref a1)] [(.ref a1)])) rfl rfl (hb hby own_d5_8)
    have k4 : ∀ t, Steps p.tables e below (T3.setTop (mkF m 13 #[.val (.ref a1)] [(.int (2147483647 : Int32)), (.int w_max_a1)])) t → Steps p.tables e below (s₁.setTop (entryFrame m #[(.ref a1)] 1)) t := by
      intro t kt
      refine k2 t ?_
      show Steps p.tables e below (T1.setTop (mkF m 4 #[.val (.ref a1)] [(.int w_first_a1)])) _
      refine XS.ifNo X1.here hx rfl (hb hby own_d5_4) rfl ((if0 _ _).trans (teq hc1).2) ?_
      show Steps p.tables e below (T1.setTop (mkF m 7 #[.val (.ref a1)] [])) _
      refine XS.aloadN X1.here hx rfl (hb hby own_d5_7) rfl rfl ?_
      show Steps p.tables e below (T1.setTop (mkF m 8 #[.val (.ref a1)] [(.ref a1)])) _
      refine st3 _ ?_
      show Steps p.tables e below (T3.setTop (mkF m 11 #[.val (.ref a1)] [(.int w_max_a1)])) _
      refine X3.ldcInt hx hown (mvT hZ (hw _ (List.mem_of_getElem? (i := 29) rfl))) (g := (mkF m 11 #[.val (.ref a1)] [(.int w_max_a1)])) rfl (hb hby own_d5_11) _ ?_
      exact kt
    by_cases hc2 : w_max_a1 = (2147483647 : Int32)
    ·
      obtain ⟨fs, hr, hrun, hended, hW, hsame⟩ := X3.leave (hlocks := hlk) (v := some (.int (1 : Int32))) (fun h => by rw [Bd.returns] at h; cases h)
      refine ⟨_, _, k4 _ ?_, hrun, hended, _, _, rfl, ?_, ⟨_, rfl⟩, hW, hsame.mono (by decide) (by decide)⟩
      · show Steps p.tables e below (T3.setTop (mkF m 13 #[.val (.ref a1)] [(.int (2147483647 : Int32)), (.int w_max_a1)])) _
        refine XS.icmpNo X3.here hx rfl (hb hby own_d5_13) rfl (teq hc2).2 ?_
        show Steps p.tables e below (T3.setTop (mkF m 16 #[.val (.ref a1)] [])) _
        refine XS.iconst X3.here hx rfl (hb hby own_d5_16) ?_
        show Steps p.tables e below (T3.setTop (mkF m 17 #[.val (.ref a1)] [(.int (1 : Int32))])) _
        refine XS.goto X3.here hx rfl (pc0 := 17) (pc' := 21) rfl (hb hby own_d5_17) (by decide) (by decide) ?_
        show Steps p.tables e below (T3.setTop (mkF m 21 #[.val (.ref a1)] [(.int (1 : Int32))])) _
        exact retN X3 hx (t := .boolean) Bd.returns (by simp) (hb hby own_d5_21) hr
      · show own_Q5 Z a1 w_first_a1 w_max_a1 h0 n0 _ T3.heap _
        rw [e3]
        exact ⟨(by rw [own_f5, if_pos hc1, if_pos hc2]), N0, rfl⟩
    ·
      obtain ⟨fs, hr, hrun, hended, hW, hsame⟩ := X3.leave (hlocks := hlk) (v := some (.int (0 : Int32))) (fun h => by rw [Bd.returns] at h; cases h)
      refine ⟨_, _, k4 _ ?_, hrun, hended, _, _, rfl, ?_, ⟨_, rfl⟩, hW, hsame.mono (by decide) (by decide)⟩
      · show Steps p.tables e below (T3.setTop (mkF m 13 #[.val (.ref a1)] [(.int (2147483647 : Int32)), (.int w_max_a1)])) _
        refine XS.icmpYes X3.here hx rfl (pc0 := 13) (pc' := 20) rfl (hb hby own_d5_13) rfl (feq hc2).2 (by decide) (by decide) ?_
        show Steps p.tables e below (T3.setTop (mkF m 20 #[.val (.ref a1)] [])) _
        refine XS.iconst X3.here hx rfl (hb hby own_d5_20) ?_
        show Steps p.tables e below (T3.setTop (mkF m 21 #[.val (.ref a1)] [(.int (0 : Int32))])) _
        exact retN X3 hx (t := .boolean) Bd.returns (by simp) (hb hby own_d5_21) hr
      · show own_Q5 Z a1 w_first_a1 w_max_a1 h0 n0 _ T3.heap _
        rw [e3]
        exact ⟨(by rw [own_f5, if_pos hc1, if_neg hc2]), N0, rfl⟩
  ·
    obtain ⟨fs, hr, hrun, hended, hW, hsame⟩ := X1.leave (hlocks := hlk) (v := some (.int (0 : Int32))) (fun h => by rw [Bd.returns] at h; cases h)
    refine ⟨_, _, k2 _ ?_, hrun, hended, _, _, rfl, ?_, ⟨_, rfl⟩, hW, hsame.mono (by decide) (by decide)⟩
    · show Steps p.tables e below (T1.setTop (mkF m 4 #[.val (.ref a1)] [(.int w_first_a1)])) _
      refine XS.ifYes X1.here hx rfl (pc0 := 4) (pc' := 20) rfl (hb hby own_d5_4) rfl ((if0 _ _).trans (feq hc1).2) (by decide) (by decide) ?_
      show Steps p.tables e below (T1.setTop (mkF m 20 #[.val (.ref a1)] [])) _
      refine XS.iconst X1.here hx rfl (hb hby own_d5_20) ?_
      show Steps p.tables e below (T1.setTop (mkF m 21 #[.val (.ref a1)] [(.int (0 : Int32))])) _
      exact retN X1 hx (t := .boolean) Bd.returns (by simp) (hb hby own_d5_21) hr
    · show own_Q5 Z a1 w_first_a1 w_max_a1 h0 n0 _ T1.heap _
      rw [e1]
      exact ⟨(by rw [own_f5, if_neg hc1]), N0, rfl⟩
-- body 6
theorem own_d6_0 : decode jdk_40_method_36_code 0 = .ok (.getstatic 90, 3) := by decide +kernel
theorem own_d6_3 : decode jdk_40_method_36_code 3 = .ok (.areturn, 1) := by decide +kernel
theorem own_ef6 (m : MethodId)  : entryFrame m #[] 0 = mkF m 0 #[] [] := by first | (simp [entryFrame, mkF, argsToLocals, Value.category]; done) | rfl
def own_f6 (w_EMPTY_LIST : Addr) : Addr := w_EMPTY_LIST
def own_Q6 (Z : State) (w_EMPTY_LIST : Addr) (h0 : Heap) (n0 : Nat) (v : Option Value) (h : Heap) (L : List Loc) : Prop := v = some (.ref (own_f6 w_EMPTY_LIST)) ∧ Fr n0 L ∧ h = h0
set_option maxRecDepth 65536 in
set_option maxHeartbeats 40000000 in
theorem own_rm6 (l : Launch) (Z : State) (a0 : Array Value) (hw : ∀ d ∈ tables_1, d.before a0 Z = true) (ws : List Jvm.Cond) (w_EMPTY_LIST : Addr) (h0 : Heap) (n0 : Nat) (Z0 : n0 ≤ h0.size) (O0 : Old Z n0 h0) (S_EMPTY_LIST : Sta Z Z.heap "java/util/ImmutableCollections" "EMPTY_LIST" "Ljava/util/ImmutableCollections$ListN;" (.ref w_EMPTY_LIST)) :
    MetFree l (⟨"java/util/List", "of", "()Ljava/util/List;"⟩ : MethodName) (head1 (Jvm.Cond.code (⟨"java/util/List", "of", "()Ljava/util/List;"⟩ : MethodName) jdk_40_method_36_code 0 (some (.object "java/util/List")) :: ws) ({ frames := 0, cells := 0, slots := 0, locals := 0 } : Room)) (fun a U => a = #[] ∧ Z.Warmed39 U.vm ∧ U.heap = h0) (fun _ _ _ _ _ => True) (fun _ U o U' => ∃ v L, o = .returned v ∧ own_Q6 Z w_EMPTY_LIST h0 n0 v U'.heap L ∧ FrameEnd U o U' L ({ frames := 0, cells := 0, slots := 0, locals := 0 } : Room).cells ({ frames := 0, cells := 0, slots := 0, locals := 0 } : Room).slots) := by
  refine MetFree.of_bodySF (plainFor_of_name own_pn26) hisR ?_
  intro p e s m args below meth c s₁ Bd hml0 hP hK
  obtain ⟨rfl, hZ, hh⟩ := hP
  have hx := Bd.exec
  have hby := Bd.bytes
  have hml : c.maxLocals = 0 := hml0
  have hown : s.vm.findClass "java/util/List" = some m.cls := findClass_of_methodNamed Bd.named
  have hnm := (name_of_methodNamed Bd.named Bd.method).1
  have X0 : Stand p l e ({ frames := 0, cells := 0, slots := 0, locals := 0 } : Room) s m #[] below meth c s₁ [] 0 0 := Stand.of_body Bd
  have hS0 : s.Since s.vm 0 := (State.WarmedH.refl s).since 0
  have hk0 : 0 ≤ h0.size := Nat.zero_le _
  have hlk := Bd.notSynchronized
  have e0 : s₁.heap = h0 := by rw [← hh, Bd.state]; rfl
  have N0 := Fr.nil n0
  have pre0 : ∀ t, Steps p.tables e below (s₁.setTop (mkF m 0 #[] [])) t → Steps p.tables e below (s₁.setTop (entryFrame m #[] 0)) t := fun t k => castTop (own_ef6 m ) k
  obtain ⟨T1, X1, e1, st1⟩ := getS2 X0 hx hZ hown (host := "") (Or.inl (hw _ (List.mem_of_getElem? (i := 34) rfl))) Via.refl e0 (S_EMPTY_LIST.ext O0.2) (g := (mkF m 0 #[] [])) rfl (hb hby own_d6_0)
  obtain ⟨fs, hr, hrun, hended, hW, hsame⟩ := X1.leave (hlocks := hlk) (v := some (.ref w_EMPTY_LIST)) (fun h => by rw [Bd.returns] at h; cases h)
  refine ⟨_, _, pre0 _ ?_, hrun, hended, _, _, rfl, ?_, ⟨_, rfl⟩, hW, hsame.mono (by decide) (by decide)⟩
  · show Steps p.tables e below (s₁.setTop (mkF m 0 #[] [])) _
    refine st1 _ ?_
    show Steps p.tables e below (T1.setTop (mkF m 3 #[] [(.ref w_EMPTY_LIST)])) _
    jvm_step X1.here [X1.here.top, hx, (hb hby own_d6_3), X1.method', Bd.returns, Value.isRef, FieldType.isReference]
    first | (intro acts; rw [hr _ acts rfl rfl rfl]) | rw [hr _ _ rfl rfl rfl]
    exact Steps.refl _
  · show own_Q6 Z w_EMPTY_LIST h0 n0 _ T1.heap _
    rw [e1]
    exact ⟨(by rw [own_f6]), N0, rfl⟩
-- body 7
theorem own_d7_0 : decode jdk_45_method_3_code 0 = .ok (.aload_n 0, 1) := by decide +kernel
theorem own_d7_1 : decode jdk_45_method_3_code 1 = .ok (.getfield 7, 3) := by decide +kernel
theorem own_d7_4 : decode jdk_45_method_3_code 4 = .ok (.arraylength, 1) := by decide +kernel
theorem own_d7_5 : decode jdk_45_method_3_code 5 = .ok (.ireturn, 1) := by decide +kernel
theorem own_ef7 (m : MethodId) (x0 : Addr) : entryFrame m #[(.ref x0)] 1 = mkF m 0 #[.val (.ref x0)] [] := by first | (simp [entryFrame, mkF, argsToLocals, Value.category]; done) | rfl
def own_f7 : Int32 := (0 : Int32)
def own_Q7 (Z : State) (a1 : Addr) (k_w_elements_a1 : ClassId) (w_elements_a1 : Addr) (h0 : Heap) (n0 : Nat) (v : Option Value) (h : Heap) (L : List Loc) : Prop := v = some (.int (own_f7)) ∧ Fr n0 L ∧ h = h0
set_option maxRecDepth 65536 in
set_option maxHeartbeats 40000000 in
theorem own_rm7 (l : Launch) (Z : State) (a0 : Array Value) (hw : ∀ d ∈ tables_1, d.before a0 Z = true) (ws : List Jvm.Cond) (a1 : Addr) (k_w_elements_a1 : ClassId) (w_elements_a1 : Addr) (h0 : Heap) (n0 : Nat) (Z0 : n0 ≤ h0.size) (V_w_elements_a1 : Arv Z h0 w_elements_a1 k_w_elements_a1 (.object "java/lang/Object") (0 : Int32) [] .null) (F_elements_a1 : Fld Z h0 a1 "java/util/ImmutableCollections$ListN" "elements" "[Ljava/lang/Object;" (.ref w_elements_a1)) :
    MetFree l (⟨"java/util/ImmutableCollections$ListN", "size", "()I"⟩ : MethodName) (head1 (Jvm.Cond.code (⟨"java/util/ImmutableCollections$ListN", "size", "()I"⟩ : MethodName) jdk_45_method_3_code 1 (some .int) :: ws) ({ frames := 0, cells := 0, slots := 0, locals := 0 } : Room)) (fun a U => a = #[(.ref a1)] ∧ Z.Warmed39 U.vm ∧ U.heap = h0) (fun _ _ _ _ _ => True) (fun _ U o U' => ∃ v L, o = .returned v ∧ own_Q7 Z a1 k_w_elements_a1 w_elements_a1 h0 n0 v U'.heap L ∧ FrameEnd U o U' L ({ frames := 0, cells := 0, slots := 0, locals := 0 } : Room).cells ({ frames := 0, cells := 0, slots := 0, locals := 0 } : Room).slots) := by
  refine MetFree.of_bodySF (plainFor_of_name own_pn29) hisR ?_
  intro p e s m args below meth c s₁ Bd hml0 hP hK
  obtain ⟨rfl, hZ, hh⟩ := hP
  have hx := Bd.exec
  have hby := Bd.bytes
  have hml : c.maxLocals = 1 := hml0
  have hown : s.vm.findClass "java/util/ImmutableCollections$ListN" = some m.cls := findClass_of_methodNamed Bd.named
  have hnm := (name_of_methodNamed Bd.named Bd.method).1
  have X0 : Stand p l e ({ frames := 0, cells := 0, slots := 0, locals := 0 } : Room) s m #[(.ref a1)] below meth c s₁ [] 0 0 := Stand.of_body Bd
  have hS0 : s.Since s.vm 0 := (State.WarmedH.refl s).since 0
  have hk0 : 0 ≤ h0.size := Nat.zero_le _
  have hlk := Bd.notSynchronized
  have e0 : s₁.heap = h0 := by rw [← hh, Bd.state]; rfl
  have N0 := Fr.nil n0
  have pre0 : ∀ t, Steps p.tables e below (s₁.setTop (mkF m 0 #[.val (.ref a1)] [])) t → Steps p.tables e below (s₁.setTop (entryFrame m #[(.ref a1)] 1)) t := fun t k => castTop (own_ef7 m a1) k
  obtain ⟨T1, X1, e1, st1⟩ := getF X0 hx hZ hown (host := "") (Or.inl (hw _ (List.mem_of_getElem? (i := 46) rfl))) Via.refl e0 F_elements_a1 (g := (mkF m 1 #[.val (.ref a1)] [(.ref a1)])) rfl rfl (hb hby own_d7_1)
  obtain ⟨cl2, Ar2, qk2, Sz2, Nn2, Hs2, Gf2⟩ := id V_w_elements_a1
  obtain ⟨fs, hr, hrun, hended, hW, hsame⟩ := X1.leave (hlocks := hlk) (v := some (.int (0 : Int32))) (fun h => by rw [Bd.returns] at h; cases h)
  refine ⟨_, _, pre0 _ ?_, hrun, hended, _, _, rfl, ?_, ⟨_, rfl⟩, hW, hsame.mono (by decide) (by decide)⟩
  · show Steps p.tables e below (s₁.setTop (mkF m 0 #[.val (.ref a1)] [])) _
    refine XS.aloadN X0.here hx rfl (hb hby own_d7_0) rfl rfl ?_
    show Steps p.tables e below (s₁.setTop (mkF m 1 #[.val (.ref a1)] [(.ref a1)])) _
    refine st1 _ ?_
    show Steps p.tables e below (T1.setTop (mkF m 4 #[.val (.ref a1)] [(.ref w_elements_a1)])) _
    refine X1.arraylength hx (by rw [e1]; exact Ar2.1) (State.isArrayOf_alike hZ.alike Ar2.2.1) (g := (mkF m 4 #[.val (.ref a1)] [(.ref w_elements_a1)])) rfl rfl (hb hby own_d7_4) _ ?_
    rw [len_of Sz2 Nn2]
    show Steps p.tables e below (T1.setTop (mkF m 5 #[.val (.ref a1)] [(.int (0 : Int32))])) _
    exact retI X1 hx Bd.returns (hb hby own_d7_5) hr
  · show own_Q7 Z a1 k_w_elements_a1 w_elements_a1 h0 n0 _ T1.heap _
    rw [e1]
    exact ⟨(by rw [own_f7]), N0, rfl⟩
-- body 14
theorem own_d14_0 : decode jdk_31_method_10_code 0 = .ok (.aload_n 0, 1) := by decide +kernel
theorem own_d14_1 : decode jdk_31_method_10_code 1 = .ok (.ifnonnull 11, 3) := by decide +kernel
theorem own_d14_12 : decode jdk_31_method_10_code 12 = .ok (.aload_n 0, 1) := by decide +kernel
theorem own_d14_13 : decode jdk_31_method_10_code 13 = .ok (.areturn, 1) := by decide +kernel
theorem own_ef14 (m : MethodId) (x0 : Addr) : entryFrame m #[(.ref x0)] 1 = mkF m 0 #[.val (.ref x0)] [] := by first | (simp [entryFrame, mkF, argsToLocals, Value.category]; done) | rfl
def own_f14 (a1 : Addr) : Addr := a1
def own_Q14 (Z : State) (a1 : Addr) (h0 : Heap) (n0 : Nat) (v : Option Value) (h : Heap) (L : List Loc) : Prop := v = some (.ref (own_f14 a1)) ∧ Fr n0 L ∧ h = h0
set_option maxRecDepth 65536 in
set_option maxHeartbeats 40000000 in
theorem own_rm14 (l : Launch) (Z : State) (a0 : Array Value) (hw : ∀ d ∈ tables_1, d.before a0 Z = true) (ws : List Jvm.Cond) (a1 : Addr) (h0 : Heap) (n0 : Nat) (Z0 : n0 ≤ h0.size) :
    MetFree l (⟨"java/util/Objects", "requireNonNull", "(Ljava/lang/Object;)Ljava/lang/Object;"⟩ : MethodName) (head1 (Jvm.Cond.code (⟨"java/util/Objects", "requireNonNull", "(Ljava/lang/Object;)Ljava/lang/Object;"⟩ : MethodName) jdk_31_method_10_code 1 (some (.object "java/lang/Object")) :: ws) ({ frames := 0, cells := 0, slots := 0, locals := 0 } : Room)) (fun a U => a = #[(.ref a1)] ∧ Z.Warmed39 U.vm ∧ U.heap = h0) (fun _ _ _ _ _ => True) (fun _ U o U' => ∃ v L, o = .returned v ∧ own_Q14 Z a1 h0 n0 v U'.heap L ∧ FrameEnd U o U' L ({ frames := 0, cells := 0, slots := 0, locals := 0 } : Room).cells ({ frames := 0, cells := 0, slots := 0, locals := 0 } : Room).slots) := by
  refine MetFree.of_bodySF (plainFor_of_name own_pn34) hisR ?_
  intro p e s m args below meth c s₁ Bd hml0 hP hK
  obtain ⟨rfl, hZ, hh⟩ := hP
  have hx := Bd.exec
  have hby := Bd.bytes
  have hml : c.maxLocals = 1 := hml0
  have hown : s.vm.findClass "java/util/Objects" = some m.cls := findClass_of_methodNamed Bd.named
  have hnm := (name_of_methodNamed Bd.named Bd.method).1
  have X0 : Stand p l e ({ frames := 0, cells := 0, slots := 0, locals := 0 } : Room) s m #[(.ref a1)] below meth c s₁ [] 0 0 := Stand.of_body Bd
  have hS0 : s.Since s.vm 0 := (State.WarmedH.refl s).since 0
  have hk0 : 0 ≤ h0.size := Nat.zero_le _
  have hlk := Bd.notSynchronized
  have e0 : s₁.heap = h0 := by rw [← hh, Bd.state]; rfl
  have N0 := Fr.nil n0
  have pre0 : ∀ t, Steps p.tables e below (s₁.setTop (mkF m 0 #[.val (.ref a1)] [])) t → Steps p.tables e below (s₁.setTop (entryFrame m #[(.ref a1)] 1)) t := fun t k => castTop (own_ef14 m a1) k
  obtain ⟨fs, hr, hrun, hended, hW, hsame⟩ := X0.leave (hlocks := hlk) (v := some (.ref a1)) (fun h => by rw [Bd.returns] at h; cases h)
  refine ⟨_, _, pre0 _ ?_, hrun, hended, _, _, rfl, ?_, ⟨_, rfl⟩, hW, hsame.mono (by decide) (by decide)⟩
  · show Steps p.tables e below (s₁.setTop (mkF m 0 #[.val (.ref a1)] [])) _
    refine XS.aloadN X0.here hx rfl (hb hby own_d14_0) rfl rfl ?_
    show Steps p.tables e below (s₁.setTop (mkF m 1 #[.val (.ref a1)] [(.ref a1)])) _
    refine XS.ifnonnullYes X0.here hx rfl (pc0 := 1) (pc' := 12) rfl (hb hby own_d14_1) rfl (by decide) (by decide) ?_
    show Steps p.tables e below (s₁.setTop (mkF m 12 #[.val (.ref a1)] [])) _
    refine XS.aloadN X0.here hx rfl (hb hby own_d14_12) rfl rfl ?_
    show Steps p.tables e below (s₁.setTop (mkF m 13 #[.val (.ref a1)] [(.ref a1)])) _
    jvm_step X0.here [X0.here.top, hx, (hb hby own_d14_13), X0.method', Bd.returns, Value.isRef, FieldType.isReference]
    first | (intro acts; rw [hr _ acts rfl rfl rfl]) | rw [hr _ _ rfl rfl rfl]
    exact Steps.refl _
  · show own_Q14 Z a1 h0 n0 _ s₁.heap _
    rw [e0]
    exact ⟨(by rw [own_f14]), N0, rfl⟩
-- body 13
theorem own_d13_0 : decode jdk_22_method_1_code 0 = .ok (.aload_n 0, 1) := by decide +kernel
theorem own_d13_1 : decode jdk_22_method_1_code 1 = .ok (.invokespecial 1, 3) := by decide +kernel
theorem own_d13_4 : decode jdk_22_method_1_code 4 = .ok (.return_, 1) := by decide +kernel
theorem own_ef13 (m : MethodId) (x0 : Addr) : entryFrame m #[(.ref x0)] 1 = mkF m 0 #[.val (.ref x0)] [] := by first | (simp [entryFrame, mkF, argsToLocals, Value.category]; done) | rfl
def own_Q13 (Z : State) (a1 : Addr) (h0 : Heap) (n0 : Nat) (v : Option Value) (h : Heap) (L : List Loc) : Prop := v = none ∧ Fr n0 L ∧ h = h0
set_option maxRecDepth 65536 in
set_option maxHeartbeats 40000000 in
theorem own_rm13 (l : Launch) (Z : State) (a0 : Array Value) (hw : ∀ d ∈ tables_1, d.before a0 Z = true) (ws : List Jvm.Cond) (a1 : Addr) (h0 : Heap) (n0 : Nat) (Z0 : n0 ≤ h0.size) :
    MetFree l (⟨"java/util/AbstractCollection", "<init>", "()V"⟩ : MethodName) (head1 (Jvm.Cond.code (⟨"java/util/AbstractCollection", "<init>", "()V"⟩ : MethodName) jdk_22_method_1_code 1 none :: ws) ({ frames := 1, cells := 0, slots := 0, locals := 12 } : Room)) (fun a U => a = #[(.ref a1)] ∧ Z.Warmed39 U.vm ∧ U.heap = h0) (fun _ _ _ _ _ => True) (fun _ U o U' => ∃ v L, o = .returned v ∧ own_Q13 Z a1 h0 n0 v U'.heap L ∧ FrameEnd U o U' L ({ frames := 1, cells := 0, slots := 0, locals := 12 } : Room).cells ({ frames := 1, cells := 0, slots := 0, locals := 12 } : Room).slots) := by
  refine MetFree.of_bodySF (plainFor_of_name own_pn39) hisR ?_
  intro p e s m args below meth c s₁ Bd hml0 hP hK
  obtain ⟨rfl, hZ, hh⟩ := hP
  have hx := Bd.exec
  have hby := Bd.bytes
  have hml : c.maxLocals = 1 := hml0
  have hown : s.vm.findClass "java/util/AbstractCollection" = some m.cls := findClass_of_methodNamed Bd.named
  have hnm := (name_of_methodNamed Bd.named Bd.method).1
  have X0 : Stand p l e ({ frames := 1, cells := 0, slots := 0, locals := 12 } : Room) s m #[(.ref a1)] below meth c s₁ [] 0 0 := Stand.of_body Bd
  have hS0 : s.Since s.vm 0 := (State.WarmedH.refl s).since 0
  have hk0 : 0 ≤ h0.size := Nat.zero_le _
  have hlk := Bd.notSynchronized
  have e0 : s₁.heap = h0 := by rw [← hh, Bd.state]; rfl
  have N0 := Fr.nil n0
  have pre0 : ∀ t, Steps p.tables e below (s₁.setTop (mkF m 0 #[.val (.ref a1)] [])) t → Steps p.tables e below (s₁.setTop (entryFrame m #[(.ref a1)] 1)) t := fun t k => castTop (own_ef13 m a1) k
  obtain ⟨T1, X1, e1, st1⟩ := initO X0 hx hZ hown (hw _ (List.mem_of_getElem? (i := 83) rfl)) (hw _ (List.mem_of_getElem? (i := 13) rfl)) (hw _ (List.mem_of_getElem? (i := 14) rfl)) e0 (g := (mkF m 1 #[.val (.ref a1)] [(.ref a1)])) rfl (by rw [hml]; rfl) rfl (hb hby own_d13_1) (by decide) (W := 0) (by show 2 * 0 + _ ≤ _; exact Nat.le_of_eq rfl) (by decide)
  obtain ⟨fs, hr, hrun, hended, hW, hsame⟩ := X1.leave (hlocks := hlk) (v := none) (fun _ => rfl)
  refine ⟨_, _, pre0 _ ?_, hrun, hended, _, _, rfl, ?_, ⟨_, rfl⟩, hW, hsame.mono (by decide) (by decide)⟩
  · show Steps p.tables e below (s₁.setTop (mkF m 0 #[.val (.ref a1)] [])) _
    refine XS.aloadN X0.here hx rfl (hb hby own_d13_0) rfl rfl ?_
    show Steps p.tables e below (s₁.setTop (mkF m 1 #[.val (.ref a1)] [(.ref a1)])) _
    refine st1 _ ?_
    show Steps p.tables e below (T1.setTop (mkF m 4 #[.val (.ref a1)] [])) _
    exact X1.returnOut hx Bd.returns (hb hby own_d13_4) hr
  · show own_Q13 Z a1 h0 n0 _ T1.heap _
    rw [e1]
    exact ⟨rfl, N0, rfl⟩
-- body 12
theorem own_d12_0 : decode jdk_47_method_1_code 0 = .ok (.aload_n 0, 1) := by decide +kernel
theorem own_d12_1 : decode jdk_47_method_1_code 1 = .ok (.invokespecial 1, 3) := by decide +kernel
theorem own_d12_4 : decode jdk_47_method_1_code 4 = .ok (.return_, 1) := by decide +kernel
theorem own_ef12 (m : MethodId) (x0 : Addr) : entryFrame m #[(.ref x0)] 1 = mkF m 0 #[.val (.ref x0)] [] := by first | (simp [entryFrame, mkF, argsToLocals, Value.category]; done) | rfl
def own_Q12 (Z : State) (a1 : Addr) (h0 : Heap) (n0 : Nat) (v : Option Value) (h : Heap) (L : List Loc) : Prop := v = none ∧ Fr n0 L ∧ h = h0
set_option maxRecDepth 65536 in
set_option maxHeartbeats 40000000 in
theorem own_rm12 (l : Launch) (Z : State) (a0 : Array Value) (hw : ∀ d ∈ tables_1, d.before a0 Z = true) (ws : List Jvm.Cond) (a1 : Addr) (h0 : Heap) (n0 : Nat) (Z0 : n0 ≤ h0.size) :
    MetFree l (⟨"java/util/ImmutableCollections$AbstractImmutableCollection", "<init>", "()V"⟩ : MethodName) (head1 (Jvm.Cond.code (⟨"java/util/ImmutableCollections$AbstractImmutableCollection", "<init>", "()V"⟩ : MethodName) jdk_47_method_1_code 1 none :: ws) ({ frames := 2, cells := 0, slots := 0, locals := 24 } : Room)) (fun a U => a = #[(.ref a1)] ∧ Z.Warmed39 U.vm ∧ U.heap = h0) (fun _ _ _ _ _ => True) (fun _ U o U' => ∃ v L, o = .returned v ∧ own_Q12 Z a1 h0 n0 v U'.heap L ∧ FrameEnd U o U' L ({ frames := 2, cells := 0, slots := 0, locals := 24 } : Room).cells ({ frames := 2, cells := 0, slots := 0, locals := 24 } : Room).slots) := by
  refine MetFree.of_bodySF (plainFor_of_name own_pn43) hisR ?_
  intro p e s m args below meth c s₁ Bd hml0 hP hK
  obtain ⟨rfl, hZ, hh⟩ := hP
  have hx := Bd.exec
  have hby := Bd.bytes
  have hml : c.maxLocals = 1 := hml0
  have hown : s.vm.findClass "java/util/ImmutableCollections$AbstractImmutableCollection" = some m.cls := findClass_of_methodNamed Bd.named
  have hnm := (name_of_methodNamed Bd.named Bd.method).1
  have X0 : Stand p l e ({ frames := 2, cells := 0, slots := 0, locals := 24 } : Room) s m #[(.ref a1)] below meth c s₁ [] 0 0 := Stand.of_body Bd
  have hS0 : s.Since s.vm 0 := (State.WarmedH.refl s).since 0
  have hk0 : 0 ≤ h0.size := Nat.zero_le _
  have hlk := Bd.notSynchronized
  have e0 : s₁.heap = h0 := by rw [← hh, Bd.state]; rfl
  have N0 := Fr.nil n0
  have pre0 : ∀ t, Steps p.tables e below (s₁.setTop (mkF m 0 #[.val (.ref a1)] [])) t → Steps p.tables e below (s₁.setTop (entryFrame m #[(.ref a1)] 1)) t := fun t k => castTop (own_ef12 m a1) k
  obtain ⟨v1, _, ⟨T1, L1, k1, n1⟩, -, X1, ⟨Lc1, hQ1, l1, y1, z1⟩, st1⟩ := X0.specialBack hx (y := (⟨"java/util/AbstractCollection", "<init>", "()V"⟩ : MethodName)) rfl hown (mvT hZ (hw _ (List.mem_of_getElem? (i := 77) rfl))) (mvT hZ (hw _ (List.mem_of_getElem? (i := 78) rfl))) (mvT hZ (hw _ (List.mem_of_getElem? (i := 82) rfl))) (by decide) (backOf (W := 0) (own_rm13 l Z a0 hw [] a1 h0 n0 Z0) hZ (hw _ (List.mem_of_getElem? (i := 82) rfl)) (hw _ (List.mem_of_getElem? (i := 81) rfl)) (by decide) (by decide)) (g := (mkF m 1 #[.val (.ref a1)] [(.ref a1)])) rfl (by rw [hml]; rfl) (Steps.refl _) (a := a1) (argsL := []) (rest := []) (lenOf own_pd4 rfl) rfl (by show 2 * 0 + _ ≤ _; exact Nat.le_of_eq rfl) (hb hby own_d12_1) (fun _ _ => ⟨rfl, e0, (by decide : 0 + 0 ≤ _), (by decide : 0 + 0 ≤ _)⟩)
  dsimp only [Pt.U, Pt.locs, Pt.cells, Pt.slots] at X1 l1 y1 z1 st1 hQ1
  subst l1 y1 z1
  obtain ⟨rfl, N1q, e1⟩ := hQ1
  have N2 := Fr.app N0 N1q
  obtain ⟨fs, hr, hrun, hended, hW, hsame⟩ := X1.leave (hlocks := hlk) (v := none) (fun _ => rfl)
  refine ⟨_, _, pre0 _ ?_, hrun, hended, _, _, rfl, ?_, ⟨_, rfl⟩, hW, hsame.mono (by decide) (by decide)⟩
  · show Steps p.tables e below (s₁.setTop (mkF m 0 #[.val (.ref a1)] [])) _
    refine XS.aloadN X0.here hx rfl (hb hby own_d12_0) rfl rfl ?_
    show Steps p.tables e below (s₁.setTop (mkF m 1 #[.val (.ref a1)] [(.ref a1)])) _
    refine st1.trans ?_
    show Steps p.tables e below (T1.setTop (mkF m 4 #[.val (.ref a1)] [])) _
    exact X1.returnOut hx Bd.returns (hb hby own_d12_4) hr
  · show own_Q12 Z a1 h0 n0 _ T1.heap _
    rw [e1]
    exact ⟨rfl, N2, rfl⟩
-- body 11
theorem own_d11_0 : decode jdk_46_method_1_code 0 = .ok (.aload_n 0, 1) := by decide +kernel
theorem own_d11_1 : decode jdk_46_method_1_code 1 = .ok (.invokespecial 1, 3) := by decide +kernel
theorem own_d11_4 : decode jdk_46_method_1_code 4 = .ok (.return_, 1) := by decide +kernel
theorem own_ef11 (m : MethodId) (x0 : Addr) : entryFrame m #[(.ref x0)] 1 = mkF m 0 #[.val (.ref x0)] [] := by first | (simp [entryFrame, mkF, argsToLocals, Value.category]; done) | rfl
def own_Q11 (Z : State) (a1 : Addr) (h0 : Heap) (n0 : Nat) (v : Option Value) (h : Heap) (L : List Loc) : Prop := v = none ∧ Fr n0 L ∧ h = h0
set_option maxRecDepth 65536 in
set_option maxHeartbeats 40000000 in
theorem own_rm11 (l : Launch) (Z : State) (a0 : Array Value) (hw : ∀ d ∈ tables_1, d.before a0 Z = true) (ws : List Jvm.Cond) (a1 : Addr) (h0 : Heap) (n0 : Nat) (Z0 : n0 ≤ h0.size) :
    MetFree l (⟨"java/util/ImmutableCollections$AbstractImmutableList", "<init>", "()V"⟩ : MethodName) (head1 (Jvm.Cond.code (⟨"java/util/ImmutableCollections$AbstractImmutableList", "<init>", "()V"⟩ : MethodName) jdk_46_method_1_code 1 none :: ws) ({ frames := 3, cells := 0, slots := 0, locals := 36 } : Room)) (fun a U => a = #[(.ref a1)] ∧ Z.Warmed39 U.vm ∧ U.heap = h0) (fun _ _ _ _ _ => True) (fun _ U o U' => ∃ v L, o = .returned v ∧ own_Q11 Z a1 h0 n0 v U'.heap L ∧ FrameEnd U o U' L ({ frames := 3, cells := 0, slots := 0, locals := 36 } : Room).cells ({ frames := 3, cells := 0, slots := 0, locals := 36 } : Room).slots) := by
  refine MetFree.of_bodySF (plainFor_of_name own_pn47) hisR ?_
  intro p e s m args below meth c s₁ Bd hml0 hP hK
  obtain ⟨rfl, hZ, hh⟩ := hP
  have hx := Bd.exec
  have hby := Bd.bytes
  have hml : c.maxLocals = 1 := hml0
  have hown : s.vm.findClass "java/util/ImmutableCollections$AbstractImmutableList" = some m.cls := findClass_of_methodNamed Bd.named
  have hnm := (name_of_methodNamed Bd.named Bd.method).1
  have X0 : Stand p l e ({ frames := 3, cells := 0, slots := 0, locals := 36 } : Room) s m #[(.ref a1)] below meth c s₁ [] 0 0 := Stand.of_body Bd
  have hS0 : s.Since s.vm 0 := (State.WarmedH.refl s).since 0
  have hk0 : 0 ≤ h0.size := Nat.zero_le _
  have hlk := Bd.notSynchronized
  have e0 : s₁.heap = h0 := by rw [← hh, Bd.state]; rfl
  have N0 := Fr.nil n0
  have pre0 : ∀ t, Steps p.tables e below (s₁.setTop (mkF m 0 #[.val (.ref a1)] [])) t → Steps p.tables e below (s₁.setTop (entryFrame m #[(.ref a1)] 1)) t := fun t k => castTop (own_ef11 m a1) k
  obtain ⟨v1, _, ⟨T1, L1, k1, n1⟩, -, X1, ⟨Lc1, hQ1, l1, y1, z1⟩, st1⟩ := X0.specialBack hx (y := (⟨"java/util/ImmutableCollections$AbstractImmutableCollection", "<init>", "()V"⟩ : MethodName)) rfl hown (mvT hZ (hw _ (List.mem_of_getElem? (i := 71) rfl))) (mvT hZ (hw _ (List.mem_of_getElem? (i := 72) rfl))) (mvT hZ (hw _ (List.mem_of_getElem? (i := 76) rfl))) (by decide) (backOf (W := 0) (own_rm12 l Z a0 hw [] a1 h0 n0 Z0) hZ (hw _ (List.mem_of_getElem? (i := 76) rfl)) (hw _ (List.mem_of_getElem? (i := 75) rfl)) (by decide) (by decide)) (g := (mkF m 1 #[.val (.ref a1)] [(.ref a1)])) rfl (by rw [hml]; rfl) (Steps.refl _) (a := a1) (argsL := []) (rest := []) (lenOf own_pd4 rfl) rfl (by show 2 * 0 + _ ≤ _; exact Nat.le_of_eq rfl) (hb hby own_d11_1) (fun _ _ => ⟨rfl, e0, (by decide : 0 + 0 ≤ _), (by decide : 0 + 0 ≤ _)⟩)
  dsimp only [Pt.U, Pt.locs, Pt.cells, Pt.slots] at X1 l1 y1 z1 st1 hQ1
  subst l1 y1 z1
  obtain ⟨rfl, N1q, e1⟩ := hQ1
  have N2 := Fr.app N0 N1q
  obtain ⟨fs, hr, hrun, hended, hW, hsame⟩ := X1.leave (hlocks := hlk) (v := none) (fun _ => rfl)
  refine ⟨_, _, pre0 _ ?_, hrun, hended, _, _, rfl, ?_, ⟨_, rfl⟩, hW, hsame.mono (by decide) (by decide)⟩
  · show Steps p.tables e below (s₁.setTop (mkF m 0 #[.val (.ref a1)] [])) _
    refine XS.aloadN X0.here hx rfl (hb hby own_d11_0) rfl rfl ?_
    show Steps p.tables e below (s₁.setTop (mkF m 1 #[.val (.ref a1)] [(.ref a1)])) _
    refine st1.trans ?_
    show Steps p.tables e below (T1.setTop (mkF m 4 #[.val (.ref a1)] [])) _
    exact X1.returnOut hx Bd.returns (hb hby own_d11_4) hr
  · show own_Q11 Z a1 h0 n0 _ T1.heap _
    rw [e1]
    exact ⟨rfl, N2, rfl⟩
-- body 10
theorem own_d10_0 : decode jdk_44_method_2_code 0 = .ok (.aload_n 0, 1) := by decide +kernel
theorem own_d10_1 : decode jdk_44_method_2_code 1 = .ok (.invokespecial 1, 3) := by decide +kernel
theorem own_d10_4 : decode jdk_44_method_2_code 4 = .ok (.aload_n 0, 1) := by decide +kernel
theorem own_d10_5 : decode jdk_44_method_2_code 5 = .ok (.aload_n 1, 1) := by decide +kernel
theorem own_d10_6 : decode jdk_44_method_2_code 6 = .ok (.invokestatic 7, 3) := by decide +kernel
theorem own_d10_9 : decode jdk_44_method_2_code 9 = .ok (.putfield 13, 3) := by decide +kernel
theorem own_d10_12 : decode jdk_44_method_2_code 12 = .ok (.aload_n 0, 1) := by decide +kernel
theorem own_d10_13 : decode jdk_44_method_2_code 13 = .ok (.aload_n 2, 1) := by decide +kernel
theorem own_d10_14 : decode jdk_44_method_2_code 14 = .ok (.invokestatic 7, 3) := by decide +kernel
theorem own_d10_17 : decode jdk_44_method_2_code 17 = .ok (.putfield 24, 3) := by decide +kernel
theorem own_d10_20 : decode jdk_44_method_2_code 20 = .ok (.return_, 1) := by decide +kernel
theorem own_ef10 (m : MethodId) (x0 : Addr) (x1 : Addr) (x2 : Addr) : entryFrame m #[(.ref x0), (.ref x1), (.ref x2)] 3 = mkF m 0 #[.val (.ref x0), .val (.ref x1), .val (.ref x2)] [] := by first | (simp [entryFrame, mkF, argsToLocals, Value.category]; done) | rfl
def own_Q10 (Z : State) (a1 : Addr) (a2 : Addr) (a3 : Addr) (u_e0_a1 : Value) (u_e1_a1 : Value) (h0 : Heap) (n0 : Nat) (v : Option Value) (h : Heap) (L : List Loc) : Prop := v = none ∧ Fr n0 L ∧ Keep h0 h [a1] ∧ Exa Z h a1 "java/util/ImmutableCollections$List12" ∧ Fld Z h a1 "java/util/ImmutableCollections$List12" "e0" "Ljava/lang/Object;" (.ref a2) ∧ Fld Z h a1 "java/util/ImmutableCollections$List12" "e1" "Ljava/lang/Object;" (.ref a3)
set_option maxRecDepth 65536 in
set_option maxHeartbeats 40000000 in
theorem own_rm10 (l : Launch) (Z : State) (a0 : Array Value) (hw : ∀ d ∈ tables_1, d.before a0 Z = true) (ws : List Jvm.Cond) (a1 : Addr) (a2 : Addr) (a3 : Addr) (u_e0_a1 : Value) (u_e1_a1 : Value) (h0 : Heap) (n0 : Nat) (Z0 : n0 ≤ h0.size) (E_a1 : Exa Z h0 a1 "java/util/ImmutableCollections$List12") (F_e0_a1 : Fld Z h0 a1 "java/util/ImmutableCollections$List12" "e0" "Ljava/lang/Object;" u_e0_a1) (g_a1 : n0 ≤ a1) (F_e1_a1 : Fld Z h0 a1 "java/util/ImmutableCollections$List12" "e1" "Ljava/lang/Object;" u_e1_a1) :
    MetFree l (⟨"java/util/ImmutableCollections$List12", "<init>", "(Ljava/lang/Object;Ljava/lang/Object;)V"⟩ : MethodName) (head1 (Jvm.Cond.code (⟨"java/util/ImmutableCollections$List12", "<init>", "(Ljava/lang/Object;Ljava/lang/Object;)V"⟩ : MethodName) jdk_44_method_2_code 3 none :: ws) ({ frames := 4, cells := 0, slots := 0, locals := 48 } : Room)) (fun a U => a = #[(.ref a1), (.ref a2), (.ref a3)] ∧ Z.Warmed39 U.vm ∧ U.heap = h0) (fun _ _ _ _ _ => True) (fun _ U o U' => ∃ v L, o = .returned v ∧ own_Q10 Z a1 a2 a3 u_e0_a1 u_e1_a1 h0 n0 v U'.heap L ∧ FrameEnd U o U' L ({ frames := 4, cells := 0, slots := 0, locals := 48 } : Room).cells ({ frames := 4, cells := 0, slots := 0, locals := 48 } : Room).slots) := by
  refine MetFree.of_bodySF (plainFor_of_name own_pn52) hisR ?_
  intro p e s m args below meth c s₁ Bd hml0 hP hK
  obtain ⟨rfl, hZ, hh⟩ := hP
  have hx := Bd.exec
  have hby := Bd.bytes
  have hml : c.maxLocals = 3 := hml0
  have hown : s.vm.findClass "java/util/ImmutableCollections$List12" = some m.cls := findClass_of_methodNamed Bd.named
  have hnm := (name_of_methodNamed Bd.named Bd.method).1
  have X0 : Stand p l e ({ frames := 4, cells := 0, slots := 0, locals := 48 } : Room) s m #[(.ref a1), (.ref a2), (.ref a3)] below meth c s₁ [] 0 0 := Stand.of_body Bd
  have hS0 : s.Since s.vm 0 := (State.WarmedH.refl s).since 0
  have hk0 : 0 ≤ h0.size := Nat.zero_le _
  have hlk := Bd.notSynchronized
  have e0 : s₁.heap = h0 := by rw [← hh, Bd.state]; rfl
  have N0 := Fr.nil n0
  have pre0 : ∀ t, Steps p.tables e below (s₁.setTop (mkF m 0 #[.val (.ref a1), .val (.ref a2), .val (.ref a3)] [])) t → Steps p.tables e below (s₁.setTop (entryFrame m #[(.ref a1), (.ref a2), (.ref a3)] 3)) t := fun t k => castTop (own_ef10 m a1 a2 a3) k
  obtain ⟨v1, _, ⟨T1, L1, k1, n1⟩, -, X1, ⟨Lc1, hQ1, l1, y1, z1⟩, st1⟩ := X0.specialBack hx (y := (⟨"java/util/ImmutableCollections$AbstractImmutableList", "<init>", "()V"⟩ : MethodName)) rfl hown (mvT hZ (hw _ (List.mem_of_getElem? (i := 65) rfl))) (mvT hZ (hw _ (List.mem_of_getElem? (i := 66) rfl))) (mvT hZ (hw _ (List.mem_of_getElem? (i := 70) rfl))) (by decide) (backOf (W := 0) (own_rm11 l Z a0 hw [] a1 h0 n0 Z0) hZ (hw _ (List.mem_of_getElem? (i := 70) rfl)) (hw _ (List.mem_of_getElem? (i := 69) rfl)) (by decide) (by decide)) (g := (mkF m 1 #[.val (.ref a1), .val (.ref a2), .val (.ref a3)] [(.ref a1)])) rfl (by rw [hml]; rfl) (Steps.refl _) (a := a1) (argsL := []) (rest := []) (lenOf own_pd4 rfl) rfl (by show 2 * 0 + _ ≤ _; exact Nat.le_of_eq rfl) (hb hby own_d10_1) (fun _ _ => ⟨rfl, e0, (by decide : 0 + 0 ≤ _), (by decide : 0 + 0 ≤ _)⟩)
  dsimp only [Pt.U, Pt.locs, Pt.cells, Pt.slots] at X1 l1 y1 z1 st1 hQ1
  subst l1 y1 z1
  obtain ⟨rfl, N1q, e1⟩ := hQ1
  have N2 := Fr.app N0 N1q
  obtain ⟨v3, _, ⟨T3, L3, k3, n3⟩, -, X3, ⟨Lc3, hQ3, l3, y3, z3⟩, st3⟩ := Jvm.LawKit.callS X1 hx (y := (⟨"java/util/Objects", "requireNonNull", "(Ljava/lang/Object;)Ljava/lang/Object;"⟩ : MethodName)) hown (mvT hZ (hw _ (List.mem_of_getElem? (i := 84) rfl))) (mvT hZ (hw _ (List.mem_of_getElem? (i := 85) rfl))) (mvT hZ (hw _ (List.mem_of_getElem? (i := 86) rfl))) (mvT hZ (hw _ (List.mem_of_getElem? (i := 87) rfl))) (by decide) (backOf (W := 1) (own_rm14 l Z a0 hw [] a2 h0 n0 Z0) hZ (hw _ (List.mem_of_getElem? (i := 87) rfl)) (hw _ (List.mem_of_getElem? (i := 86) rfl)) (by decide) (by decide)) (g := (mkF m 6 #[.val (.ref a1), .val (.ref a2), .val (.ref a3)] [(.ref a2), (.ref a1)])) rfl (by rw [hml]; rfl) (argsL := [(.ref a2)]) (rest := [(.ref a1)]) (lenOf own_pd51 rfl) rfl (by show 2 * 0 + _ ≤ _; exact Nat.le_of_eq rfl) (hb hby own_d10_6) (fun _ _ => ⟨rfl, e1, (by decide : 0 + 0 ≤ _), (by decide : 0 + 0 ≤ _)⟩)
  dsimp only [Pt.U, Pt.locs, Pt.cells, Pt.slots] at X3 l3 y3 z3 st3 hQ3
  subst l3 y3 z3
  obtain ⟨hv3, N3q, e3⟩ := hQ3
  have N4 := Fr.app N2 N3q
  rw [show (own_f14 a2) = a2 from by first | rfl | decide | simp [own_f14]] at hv3
  subst hv3
  obtain ⟨T5, h5, X5, e5, W5, st5⟩ := putF X3 hx hZ hown (host := "") (Or.inl (hw _ (List.mem_of_getElem? (i := 88) rfl))) Via.refl e3 F_e0_a1 E_a1 (Or.inr ⟨(hw _ (List.mem_of_getElem? (i := 89) rfl)), rfl, hnm⟩) (hw _ (List.mem_of_getElem? (i := 59) rfl)) (ty := (.object "java/lang/Object")) (by decide) rfl rfl (g := (mkF m 9 #[.val (.ref a1), .val (.ref a2), .val (.ref a3)] [(.ref a2), (.ref a1)])) rfl rfl (hb hby own_d10_9)
  have N6 := Fr.snoc X5 N4 g_a1
  have Z7 := Nat.le_trans Z0 (Keep.of_wr W5).1
  have K8 : Keep h0 h5 [a1] := (Keep.refl h0 _).wr W5 (Or.inl (List.mem_of_getElem? (i := 0) rfl))
  have f9 := E_a1.wr W5
  have f10 := F_e0_a1.same W5
  have f11 := F_e1_a1.other W5 (Or.inr (slot_ne (Or.inr (hw _ (List.mem_of_getElem? (i := 91) rfl))) (Or.inr (hw _ (List.mem_of_getElem? (i := 89) rfl))) (by decide) (t := (.object "java/lang/Object")) (t' := (.object "java/lang/Object")) (by decide) (by decide)))
  obtain ⟨v12, _, ⟨T12, L12, k12, n12⟩, -, X12, ⟨Lc12, hQ12, l12, y12, z12⟩, st12⟩ := Jvm.LawKit.callS X5 hx (y := (⟨"java/util/Objects", "requireNonNull", "(Ljava/lang/Object;)Ljava/lang/Object;"⟩ : MethodName)) hown (mvT hZ (hw _ (List.mem_of_getElem? (i := 84) rfl))) (mvT hZ (hw _ (List.mem_of_getElem? (i := 85) rfl))) (mvT hZ (hw _ (List.mem_of_getElem? (i := 86) rfl))) (mvT hZ (hw _ (List.mem_of_getElem? (i := 87) rfl))) (by decide) (backOf (W := 1) (own_rm14 l Z a0 hw [] a3 h5 n0 Z7) hZ (hw _ (List.mem_of_getElem? (i := 87) rfl)) (hw _ (List.mem_of_getElem? (i := 86) rfl)) (by decide) (by decide)) (g := (mkF m 14 #[.val (.ref a1), .val (.ref a2), .val (.ref a3)] [(.ref a3), (.ref a1)])) rfl (by rw [hml]; rfl) (argsL := [(.ref a3)]) (rest := [(.ref a1)]) (lenOf own_pd51 rfl) rfl (by show 2 * 0 + _ ≤ _; exact Nat.le_of_eq rfl) (hb hby own_d10_14) (fun _ _ => ⟨rfl, e5, (by decide : 0 + 0 ≤ _), (by decide : 0 + 0 ≤ _)⟩)
  dsimp only [Pt.U, Pt.locs, Pt.cells, Pt.slots] at X12 l12 y12 z12 st12 hQ12
  subst l12 y12 z12
  obtain ⟨hv12, N12q, e12⟩ := hQ12
  have N13 := Fr.app N6 N12q
  rw [show (own_f14 a3) = a3 from by first | rfl | decide | simp [own_f14]] at hv12
  subst hv12
  obtain ⟨T14, h14, X14, e14, W14, st14⟩ := putF X12 hx hZ hown (host := "") (Or.inl (hw _ (List.mem_of_getElem? (i := 90) rfl))) Via.refl e12 f11 f9 (Or.inr ⟨(hw _ (List.mem_of_getElem? (i := 91) rfl)), rfl, hnm⟩) (hw _ (List.mem_of_getElem? (i := 59) rfl)) (ty := (.object "java/lang/Object")) (by decide) rfl rfl (g := (mkF m 17 #[.val (.ref a1), .val (.ref a2), .val (.ref a3)] [(.ref a3), (.ref a1)])) rfl rfl (hb hby own_d10_17)
  have N15 := Fr.snoc X14 N13 g_a1
  have Z16 := Nat.le_trans Z7 (Keep.of_wr W14).1
  have K17 : Keep h0 h14 [a1] := K8.wr W14 (Or.inl (List.mem_of_getElem? (i := 0) rfl))
  have f18 := f9.wr W14
  have f19 := f10.other W14 (Or.inr (slot_ne (Or.inr (hw _ (List.mem_of_getElem? (i := 89) rfl))) (Or.inr (hw _ (List.mem_of_getElem? (i := 91) rfl))) (by decide) (t := (.object "java/lang/Object")) (t' := (.object "java/lang/Object")) (by decide) (by decide)))
  have f20 := f11.same W14
  obtain ⟨fs, hr, hrun, hended, hW, hsame⟩ := X14.leave (hlocks := hlk) (v := none) (fun _ => rfl)
  refine ⟨_, _, pre0 _ ?_, hrun, hended, _, _, rfl, ?_, ⟨_, rfl⟩, hW, hsame.mono (by decide) (by decide)⟩
  · show Steps p.tables e below (s₁.setTop (mkF m 0 #[.val (.ref a1), .val (.ref a2), .val (.ref a3)] [])) _
    refine XS.aloadN X0.here hx rfl (hb hby own_d10_0) rfl rfl ?_
    show Steps p.tables e below (s₁.setTop (mkF m 1 #[.val (.ref a1), .val (.ref a2), .val (.ref a3)] [(.ref a1)])) _
    refine st1.trans ?_
    show Steps p.tables e below (T1.setTop (mkF m 4 #[.val (.ref a1), .val (.ref a2), .val (.ref a3)] [])) _
    refine XS.aloadN X1.here hx rfl (hb hby own_d10_4) rfl rfl ?_
    show Steps p.tables e below (T1.setTop (mkF m 5 #[.val (.ref a1), .val (.ref a2), .val (.ref a3)] [(.ref a1)])) _
    refine XS.aloadN X1.here hx rfl (hb hby own_d10_5) rfl rfl ?_
    show Steps p.tables e below (T1.setTop (mkF m 6 #[.val (.ref a1), .val (.ref a2), .val (.ref a3)] [(.ref a2), (.ref a1)])) _
    refine st3 _ ?_
    show Steps p.tables e below (T3.setTop (mkF m 9 #[.val (.ref a1), .val (.ref a2), .val (.ref a3)] [(.ref a2), (.ref a1)])) _
    refine st5 _ ?_
    show Steps p.tables e below (T5.setTop (mkF m 12 #[.val (.ref a1), .val (.ref a2), .val (.ref a3)] [])) _
    refine XS.aloadN X5.here hx rfl (hb hby own_d10_12) rfl rfl ?_
    show Steps p.tables e below (T5.setTop (mkF m 13 #[.val (.ref a1), .val (.ref a2), .val (.ref a3)] [(.ref a1)])) _
    refine XS.aloadN X5.here hx rfl (hb hby own_d10_13) rfl rfl ?_
    show Steps p.tables e below (T5.setTop (mkF m 14 #[.val (.ref a1), .val (.ref a2), .val (.ref a3)] [(.ref a3), (.ref a1)])) _
    refine st12 _ ?_
    show Steps p.tables e below (T12.setTop (mkF m 17 #[.val (.ref a1), .val (.ref a2), .val (.ref a3)] [(.ref a3), (.ref a1)])) _
    refine st14 _ ?_
    show Steps p.tables e below (T14.setTop (mkF m 20 #[.val (.ref a1), .val (.ref a2), .val (.ref a3)] [])) _
    exact X14.returnOut hx Bd.returns (hb hby own_d10_20) hr
  · show own_Q10 Z a1 a2 a3 u_e0_a1 u_e1_a1 h0 n0 _ T14.heap _
    rw [e14]
    exact ⟨rfl, N15, K17, f18, f19, f20⟩
-- body 9
theorem own_d9_0 : decode jdk_40_method_38_code 0 = .ok (.new 96, 3) := by decide +kernel
theorem own_d9_3 : decode jdk_40_method_38_code 3 = .ok (.dup, 1) := by decide +kernel
theorem own_d9_4 : decode jdk_40_method_38_code 4 = .ok (.aload_n 0, 1) := by decide +kernel
theorem own_d9_5 : decode jdk_40_method_38_code 5 = .ok (.aload_n 1, 1) := by decide +kernel
theorem own_d9_6 : decode jdk_40_method_38_code 6 = .ok (.invokespecial 100, 3) := by decide +kernel
theorem own_d9_9 : decode jdk_40_method_38_code 9 = .ok (.areturn, 1) := by decide +kernel
theorem own_ef9 (m : MethodId) (x0 : Addr) (x1 : Addr) : entryFrame m #[(.ref x0), (.ref x1)] 2 = mkF m 0 #[.val (.ref x0), .val (.ref x1)] [] := by first | (simp [entryFrame, mkF, argsToLocals, Value.category]; done) | rfl
def own_Q9 (Z : State) (a1 : Addr) (a2 : Addr) (h0 : Heap) (n0 : Nat) (v : Option Value) (h : Heap) (L : List Loc) : Prop := ∃ (r : Addr), v = some (.ref r) ∧ Fr n0 L ∧ Keep h0 h [] ∧ h0.size ≤ r ∧ Exa Z h r "java/util/ImmutableCollections$List12" ∧ Fld Z h r "java/util/ImmutableCollections$List12" "e0" "Ljava/lang/Object;" (.ref a1) ∧ Fld Z h r "java/util/ImmutableCollections$List12" "e1" "Ljava/lang/Object;" (.ref a2)
set_option maxRecDepth 65536 in
set_option maxHeartbeats 40000000 in
theorem own_rm9 (l : Launch) (Z : State) (a0 : Array Value) (hw : ∀ d ∈ tables_1, d.before a0 Z = true) (ws : List Jvm.Cond) (a1 : Addr) (a2 : Addr) (h0 : Heap) (n0 : Nat) (Z0 : n0 ≤ h0.size) :
    MetFree l (⟨"java/util/List", "of", "(Ljava/lang/Object;Ljava/lang/Object;)Ljava/util/List;"⟩ : MethodName) (head1 (Jvm.Cond.code (⟨"java/util/List", "of", "(Ljava/lang/Object;Ljava/lang/Object;)Ljava/util/List;"⟩ : MethodName) jdk_40_method_38_code 2 (some (.object "java/util/List")) :: ws) ({ frames := 5, cells := 1, slots := 2, locals := 63 } : Room)) (fun a U => a = #[(.ref a1), (.ref a2)] ∧ Z.Warmed39 U.vm ∧ U.heap = h0) (fun _ _ _ _ _ => True) (fun _ U o U' => ∃ v L, o = .returned v ∧ own_Q9 Z a1 a2 h0 n0 v U'.heap L ∧ FrameEnd U o U' L ({ frames := 5, cells := 1, slots := 2, locals := 63 } : Room).cells ({ frames := 5, cells := 1, slots := 2, locals := 63 } : Room).slots) := by
  refine MetFree.of_bodySF (plainFor_of_name own_pn26) hisR ?_
  intro p e s m args below meth c s₁ Bd hml0 hP hK
  obtain ⟨rfl, hZ, hh⟩ := hP
  have hx := Bd.exec
  have hby := Bd.bytes
  have hml : c.maxLocals = 2 := hml0
  have hown : s.vm.findClass "java/util/List" = some m.cls := findClass_of_methodNamed Bd.named
  have hnm := (name_of_methodNamed Bd.named Bd.method).1
  have X0 : Stand p l e ({ frames := 5, cells := 1, slots := 2, locals := 63 } : Room) s m #[(.ref a1), (.ref a2)] below meth c s₁ [] 0 0 := Stand.of_body Bd
  have hS0 : s.Since s.vm 0 := (State.WarmedH.refl s).since 0
  have hk0 : 0 ≤ h0.size := Nat.zero_le _
  have hlk := Bd.notSynchronized
  have e0 : s₁.heap = h0 := by rw [← hh, Bd.state]; rfl
  have N0 := Fr.nil n0
  have pre0 : ∀ t, Steps p.tables e below (s₁.setTop (mkF m 0 #[.val (.ref a1), .val (.ref a2)] [])) t → Steps p.tables e below (s₁.setTop (entryFrame m #[(.ref a1), (.ref a2)] 2)) t := fun t k => castTop (own_ef9 m a1 a2) k
  obtain ⟨T1, h1, X1, e1, E1, A1, D1, -, st1⟩ := newO X0 hx hZ hown (hw _ (List.mem_of_getElem? (i := 58) rfl)) (hw _ (List.mem_of_getElem? (i := 59) rfl)) (hw _ (List.mem_of_getElem? (i := 60) rfl)) e0 (g := (mkF m 0 #[.val (.ref a1), .val (.ref a2)] [])) rfl (hb hby own_d9_0) (by decide) (by decide)
  obtain ⟨b1, g1⟩ : ∃ z, z = h0.size := ⟨_, rfl⟩
  rw [← g1] at A1 D1 st1
  have g_b1 : n0 ≤ b1 := Nat.le_trans Z0 (Nat.le_of_eq g1.symm)
  have sz_b1 : h0.size ≤ b1 := Nat.le_of_eq g1.symm
  have Z2 := Nat.le_trans Z0 E1.1
  have K3 : Keep h0 h1 [] := (Keep.refl h0 _).ext E1
  have F_e0_b1 : Fld Z h1 b1 "java/util/ImmutableCollections$List12" "e0" "Ljava/lang/Object;" .null := D1 (Or.inr (hw _ (List.mem_of_getElem? (i := 89) rfl))) (ty := (.object "java/lang/Object")) (by decide)
  have F_e1_b1 : Fld Z h1 b1 "java/util/ImmutableCollections$List12" "e1" "Ljava/lang/Object;" .null := D1 (Or.inr (hw _ (List.mem_of_getElem? (i := 91) rfl))) (ty := (.object "java/lang/Object")) (by decide)
  obtain ⟨v4, _, ⟨T4, L4, k4, n4⟩, -, X4, ⟨Lc4, hQ4, l4, y4, z4⟩, st4⟩ := X1.specialBack hx (y := (⟨"java/util/ImmutableCollections$List12", "<init>", "(Ljava/lang/Object;Ljava/lang/Object;)V"⟩ : MethodName)) rfl hown (mvT hZ (hw _ (List.mem_of_getElem? (i := 61) rfl))) (mvT hZ (hw _ (List.mem_of_getElem? (i := 62) rfl))) (mvT hZ (hw _ (List.mem_of_getElem? (i := 64) rfl))) (by decide) (backOf (W := 1) (own_rm10 l Z a0 hw [] b1 a1 a2 .null .null h1 n0 Z2 A1 F_e0_b1 g_b1 F_e1_b1) hZ (hw _ (List.mem_of_getElem? (i := 64) rfl)) (hw _ (List.mem_of_getElem? (i := 60) rfl)) (by decide) (by decide)) (g := (mkF m 6 #[.val (.ref a1), .val (.ref a2)] [(.ref a2), (.ref a1), (.ref b1), (.ref b1)])) rfl (by rw [hml]; rfl) (Steps.refl _) (a := b1) (argsL := [(.ref a1), (.ref a2)]) (rest := [(.ref b1)]) (lenOf own_pd64 rfl) rfl (by show 2 * 0 + _ ≤ _; exact Nat.le_of_eq rfl) (hb hby own_d9_6) (fun _ _ => ⟨rfl, e1, (by decide : 1 + 0 ≤ _), (by decide : 2 + 0 ≤ _)⟩)
  dsimp only [Pt.U, Pt.locs, Pt.cells, Pt.slots] at X4 l4 y4 z4 st4 hQ4
  subst l4 y4 z4
  obtain ⟨rfl, N4q, K4, Q4_0, Q4_1, Q4_2⟩ := hQ4
  have f5 := A1.keep K4
  have Z8 := Nat.le_trans Z2 K4.1
  have K9 : Keep h0 T4.heap [] := Keep.trans K3 K4 (allS (Or.inr sz_b1) all0)
  have N10 := Fr.app N0 N4q
  obtain ⟨fs, hr, hrun, hended, hW, hsame⟩ := X4.leave (hlocks := hlk) (v := some (.ref b1)) (fun h => by rw [Bd.returns] at h; cases h)
  refine ⟨_, _, pre0 _ ?_, hrun, hended, _, _, rfl, ?_, ⟨_, rfl⟩, hW, hsame.mono (by decide) (by decide)⟩
  · show Steps p.tables e below (s₁.setTop (mkF m 0 #[.val (.ref a1), .val (.ref a2)] [])) _
    refine st1 _ ?_
    show Steps p.tables e below (T1.setTop (mkF m 3 #[.val (.ref a1), .val (.ref a2)] [(.ref b1)])) _
    refine XS.dup X1.here hx rfl (hb hby own_d9_3) rfl rfl ?_
    show Steps p.tables e below (T1.setTop (mkF m 4 #[.val (.ref a1), .val (.ref a2)] [(.ref b1), (.ref b1)])) _
    refine XS.aloadN X1.here hx rfl (hb hby own_d9_4) rfl rfl ?_
    show Steps p.tables e below (T1.setTop (mkF m 5 #[.val (.ref a1), .val (.ref a2)] [(.ref a1), (.ref b1), (.ref b1)])) _
    refine XS.aloadN X1.here hx rfl (hb hby own_d9_5) rfl rfl ?_
    show Steps p.tables e below (T1.setTop (mkF m 6 #[.val (.ref a1), .val (.ref a2)] [(.ref a2), (.ref a1), (.ref b1), (.ref b1)])) _
    refine st4.trans ?_
    show Steps p.tables e below (T4.setTop (mkF m 9 #[.val (.ref a1), .val (.ref a2)] [(.ref b1)])) _
    jvm_step X4.here [X4.here.top, hx, (hb hby own_d9_9), X4.method', Bd.returns, Value.isRef, FieldType.isReference]
    first | (intro acts; rw [hr _ acts rfl rfl rfl]) | rw [hr _ _ rfl rfl rfl]
    exact Steps.refl _
  · show own_Q9 Z a1 a2 h0 n0 _ T4.heap _
    exact ⟨b1, rfl, N10, K9, sz_b1, Q4_0, Q4_1, Q4_2⟩
-- body 19
theorem own_d19_0 : decode jdk_18_method_1_code 0 = .ok (.aload_n 0, 1) := by decide +kernel
theorem own_d19_1 : decode jdk_18_method_1_code 1 = .ok (.invokespecial 1, 3) := by decide +kernel
theorem own_d19_4 : decode jdk_18_method_1_code 4 = .ok (.return_, 1) := by decide +kernel
theorem own_ef19 (m : MethodId) (x0 : Addr) : entryFrame m #[(.ref x0)] 1 = mkF m 0 #[.val (.ref x0)] [] := by first | (simp [entryFrame, mkF, argsToLocals, Value.category]; done) | rfl
def own_Q19 (Z : State) (a1 : Addr) (h0 : Heap) (n0 : Nat) (v : Option Value) (h : Heap) (L : List Loc) : Prop := v = none ∧ Fr n0 L ∧ h = h0
set_option maxRecDepth 65536 in
set_option maxHeartbeats 40000000 in
theorem own_rm19 (l : Launch) (Z : State) (a0 : Array Value) (hw : ∀ d ∈ tables_1, d.before a0 Z = true) (ws : List Jvm.Cond) (a1 : Addr) (h0 : Heap) (n0 : Nat) (Z0 : n0 ≤ h0.size) :
    MetFree l (⟨"java/lang/Number", "<init>", "()V"⟩ : MethodName) (head1 (Jvm.Cond.code (⟨"java/lang/Number", "<init>", "()V"⟩ : MethodName) jdk_18_method_1_code 1 none :: ws) ({ frames := 1, cells := 0, slots := 0, locals := 12 } : Room)) (fun a U => a = #[(.ref a1)] ∧ Z.Warmed39 U.vm ∧ U.heap = h0) (fun _ _ _ _ _ => True) (fun _ U o U' => ∃ v L, o = .returned v ∧ own_Q19 Z a1 h0 n0 v U'.heap L ∧ FrameEnd U o U' L ({ frames := 1, cells := 0, slots := 0, locals := 12 } : Room).cells ({ frames := 1, cells := 0, slots := 0, locals := 12 } : Room).slots) := by
  refine MetFree.of_bodySF (plainFor_of_name own_pn71) hisR ?_
  intro p e s m args below meth c s₁ Bd hml0 hP hK
  obtain ⟨rfl, hZ, hh⟩ := hP
  have hx := Bd.exec
  have hby := Bd.bytes
  have hml : c.maxLocals = 1 := hml0
  have hown : s.vm.findClass "java/lang/Number" = some m.cls := findClass_of_methodNamed Bd.named
  have hnm := (name_of_methodNamed Bd.named Bd.method).1
  have X0 : Stand p l e ({ frames := 1, cells := 0, slots := 0, locals := 12 } : Room) s m #[(.ref a1)] below meth c s₁ [] 0 0 := Stand.of_body Bd
  have hS0 : s.Since s.vm 0 := (State.WarmedH.refl s).since 0
  have hk0 : 0 ≤ h0.size := Nat.zero_le _
  have hlk := Bd.notSynchronized
  have e0 : s₁.heap = h0 := by rw [← hh, Bd.state]; rfl
  have N0 := Fr.nil n0
  have pre0 : ∀ t, Steps p.tables e below (s₁.setTop (mkF m 0 #[.val (.ref a1)] [])) t → Steps p.tables e below (s₁.setTop (entryFrame m #[(.ref a1)] 1)) t := fun t k => castTop (own_ef19 m a1) k
  obtain ⟨T1, X1, e1, st1⟩ := initO X0 hx hZ hown (hw _ (List.mem_of_getElem? (i := 127) rfl)) (hw _ (List.mem_of_getElem? (i := 13) rfl)) (hw _ (List.mem_of_getElem? (i := 14) rfl)) e0 (g := (mkF m 1 #[.val (.ref a1)] [(.ref a1)])) rfl (by rw [hml]; rfl) rfl (hb hby own_d19_1) (by decide) (W := 0) (by show 2 * 0 + _ ≤ _; exact Nat.le_of_eq rfl) (by decide)
  obtain ⟨fs, hr, hrun, hended, hW, hsame⟩ := X1.leave (hlocks := hlk) (v := none) (fun _ => rfl)
  refine ⟨_, _, pre0 _ ?_, hrun, hended, _, _, rfl, ?_, ⟨_, rfl⟩, hW, hsame.mono (by decide) (by decide)⟩
  · show Steps p.tables e below (s₁.setTop (mkF m 0 #[.val (.ref a1)] [])) _
    refine XS.aloadN X0.here hx rfl (hb hby own_d19_0) rfl rfl ?_
    show Steps p.tables e below (s₁.setTop (mkF m 1 #[.val (.ref a1)] [(.ref a1)])) _
    refine st1 _ ?_
    show Steps p.tables e below (T1.setTop (mkF m 4 #[.val (.ref a1)] [])) _
    exact X1.returnOut hx Bd.returns (hb hby own_d19_4) hr
  · show own_Q19 Z a1 h0 n0 _ T1.heap _
    rw [e1]
    exact ⟨rfl, N0, rfl⟩
-- body 18
theorem own_d18_0 : decode jdk_33_method_23_code 0 = .ok (.aload_n 0, 1) := by decide +kernel
theorem own_d18_1 : decode jdk_33_method_23_code 1 = .ok (.invokespecial 202, 3) := by decide +kernel
theorem own_d18_4 : decode jdk_33_method_23_code 4 = .ok (.aload_n 0, 1) := by decide +kernel
theorem own_d18_5 : decode jdk_33_method_23_code 5 = .ok (.iload_n 1, 1) := by decide +kernel
theorem own_d18_6 : decode jdk_33_method_23_code 6 = .ok (.putfield 205, 3) := by decide +kernel
theorem own_d18_9 : decode jdk_33_method_23_code 9 = .ok (.return_, 1) := by decide +kernel
theorem own_ef18 (m : MethodId) (x0 : Addr) (x1 : Int32) : entryFrame m #[(.ref x0), (.int x1)] 2 = mkF m 0 #[.val (.ref x0), .val (.int x1)] [] := by first | (simp [entryFrame, mkF, argsToLocals, Value.category]; done) | rfl
def own_Q18 (Z : State) (a1 : Addr) (p2 : Int32) (w_value_a1 : Int32) (h0 : Heap) (n0 : Nat) (v : Option Value) (h : Heap) (L : List Loc) : Prop := v = none ∧ Fr n0 L ∧ Keep h0 h [a1] ∧ Exa Z h a1 "java/lang/Integer" ∧ Fld Z h a1 "java/lang/Integer" "value" "I" (.int p2)
set_option maxRecDepth 65536 in
set_option maxHeartbeats 40000000 in
theorem own_rm18 (l : Launch) (Z : State) (a0 : Array Value) (hw : ∀ d ∈ tables_1, d.before a0 Z = true) (ws : List Jvm.Cond) (a1 : Addr) (p2 : Int32) (w_value_a1 : Int32) (h0 : Heap) (n0 : Nat) (Z0 : n0 ≤ h0.size) (E_a1 : Exa Z h0 a1 "java/lang/Integer") (F_value_a1 : Fld Z h0 a1 "java/lang/Integer" "value" "I" (.int w_value_a1)) (g_a1 : n0 ≤ a1) :
    MetFree l (⟨"java/lang/Integer", "<init>", "(I)V"⟩ : MethodName) (head1 (Jvm.Cond.code (⟨"java/lang/Integer", "<init>", "(I)V"⟩ : MethodName) jdk_33_method_23_code 2 none :: ws) ({ frames := 2, cells := 0, slots := 0, locals := 24 } : Room)) (fun a U => a = #[(.ref a1), (.int p2)] ∧ Z.Warmed39 U.vm ∧ U.heap = h0) (fun _ _ _ _ _ => True) (fun _ U o U' => ∃ v L, o = .returned v ∧ own_Q18 Z a1 p2 w_value_a1 h0 n0 v U'.heap L ∧ FrameEnd U o U' L ({ frames := 2, cells := 0, slots := 0, locals := 24 } : Room).cells ({ frames := 2, cells := 0, slots := 0, locals := 24 } : Room).slots) := by
  refine MetFree.of_bodySF (plainFor_of_name own_pn75) hisR ?_
  intro p e s m args below meth c s₁ Bd hml0 hP hK
  obtain ⟨rfl, hZ, hh⟩ := hP
  have hx := Bd.exec
  have hby := Bd.bytes
  have hml : c.maxLocals = 2 := hml0
  have hown : s.vm.findClass "java/lang/Integer" = some m.cls := findClass_of_methodNamed Bd.named
  have hnm := (name_of_methodNamed Bd.named Bd.method).1
  have X0 : Stand p l e ({ frames := 2, cells := 0, slots := 0, locals := 24 } : Room) s m #[(.ref a1), (.int p2)] below meth c s₁ [] 0 0 := Stand.of_body Bd
  have hS0 : s.Since s.vm 0 := (State.WarmedH.refl s).since 0
  have hk0 : 0 ≤ h0.size := Nat.zero_le _
  have hlk := Bd.notSynchronized
  have e0 : s₁.heap = h0 := by rw [← hh, Bd.state]; rfl
  have N0 := Fr.nil n0
  have pre0 : ∀ t, Steps p.tables e below (s₁.setTop (mkF m 0 #[.val (.ref a1), .val (.int p2)] [])) t → Steps p.tables e below (s₁.setTop (entryFrame m #[(.ref a1), (.int p2)] 2)) t := fun t k => castTop (own_ef18 m a1 p2) k
  obtain ⟨v1, _, ⟨T1, L1, k1, n1⟩, -, X1, ⟨Lc1, hQ1, l1, y1, z1⟩, st1⟩ := X0.specialBack hx (y := (⟨"java/lang/Number", "<init>", "()V"⟩ : MethodName)) rfl hown (mvT hZ (hw _ (List.mem_of_getElem? (i := 121) rfl))) (mvT hZ (hw _ (List.mem_of_getElem? (i := 122) rfl))) (mvT hZ (hw _ (List.mem_of_getElem? (i := 126) rfl))) (by decide) (backOf (W := 0) (own_rm19 l Z a0 hw [] a1 h0 n0 Z0) hZ (hw _ (List.mem_of_getElem? (i := 126) rfl)) (hw _ (List.mem_of_getElem? (i := 125) rfl)) (by decide) (by decide)) (g := (mkF m 1 #[.val (.ref a1), .val (.int p2)] [(.ref a1)])) rfl (by rw [hml]; rfl) (Steps.refl _) (a := a1) (argsL := []) (rest := []) (lenOf own_pd4 rfl) rfl (by show 2 * 0 + _ ≤ _; exact Nat.le_of_eq rfl) (hb hby own_d18_1) (fun _ _ => ⟨rfl, e0, (by decide : 0 + 0 ≤ _), (by decide : 0 + 0 ≤ _)⟩)
  dsimp only [Pt.U, Pt.locs, Pt.cells, Pt.slots] at X1 l1 y1 z1 st1 hQ1
  subst l1 y1 z1
  obtain ⟨rfl, N1q, e1⟩ := hQ1
  have N2 := Fr.app N0 N1q
  obtain ⟨T3, h3, X3, e3, W3, st3⟩ := putF X1 hx hZ hown (host := "") (Or.inl (hw _ (List.mem_of_getElem? (i := 114) rfl))) Via.refl e1 F_value_a1 E_a1 (Or.inr ⟨(hw _ (List.mem_of_getElem? (i := 115) rfl)), rfl, hnm⟩) (hw _ (List.mem_of_getElem? (i := 117) rfl)) (ty := .int) (by decide) rfl rfl (g := (mkF m 6 #[.val (.ref a1), .val (.int p2)] [(.int p2), (.ref a1)])) rfl rfl (hb hby own_d18_6)
  have N4 := Fr.snoc X3 N2 g_a1
  have Z5 := Nat.le_trans Z0 (Keep.of_wr W3).1
  have K6 : Keep h0 h3 [a1] := (Keep.refl h0 _).wr W3 (Or.inl (List.mem_of_getElem? (i := 0) rfl))
  have f7 := E_a1.wr W3
  have f8 := F_value_a1.same W3
  obtain ⟨fs, hr, hrun, hended, hW, hsame⟩ := X3.leave (hlocks := hlk) (v := none) (fun _ => rfl)
  refine ⟨_, _, pre0 _ ?_, hrun, hended, _, _, rfl, ?_, ⟨_, rfl⟩, hW, hsame.mono (by decide) (by decide)⟩
  · show Steps p.tables e below (s₁.setTop (mkF m 0 #[.val (.ref a1), .val (.int p2)] [])) _
    refine XS.aloadN X0.here hx rfl (hb hby own_d18_0) rfl rfl ?_
    show Steps p.tables e below (s₁.setTop (mkF m 1 #[.val (.ref a1), .val (.int p2)] [(.ref a1)])) _
    refine st1.trans ?_
    show Steps p.tables e below (T1.setTop (mkF m 4 #[.val (.ref a1), .val (.int p2)] [])) _
    refine XS.aloadN X1.here hx rfl (hb hby own_d18_4) rfl rfl ?_
    show Steps p.tables e below (T1.setTop (mkF m 5 #[.val (.ref a1), .val (.int p2)] [(.ref a1)])) _
    refine XS.iloadN X1.here hx rfl (hb hby own_d18_5) rfl ?_
    show Steps p.tables e below (T1.setTop (mkF m 6 #[.val (.ref a1), .val (.int p2)] [(.int p2), (.ref a1)])) _
    refine st3 _ ?_
    show Steps p.tables e below (T3.setTop (mkF m 9 #[.val (.ref a1), .val (.int p2)] [])) _
    exact X3.returnOut hx Bd.returns (hb hby own_d18_9) hr
  · show own_Q18 Z a1 p2 w_value_a1 h0 n0 _ T3.heap _
    rw [e3]
    exact ⟨rfl, N4, K6, f7, f8⟩
-- body 8
theorem own_d8_0 : decode jdk_33_method_22_code 0 = .ok (.iload_n 0, 1) := by decide +kernel
theorem own_d8_1 : decode jdk_33_method_22_code 1 = .ok (.bipush (-128), 2) := by decide +kernel
theorem own_d8_3 : decode jdk_33_method_22_code 3 = .ok (.if_icmp .lt 20, 3) := by decide +kernel
theorem own_d8_6 : decode jdk_33_method_22_code 6 = .ok (.iload_n 0, 1) := by decide +kernel
theorem own_d8_7 : decode jdk_33_method_22_code 7 = .ok (.getstatic 191, 3) := by decide +kernel
theorem own_d8_10 : decode jdk_33_method_22_code 10 = .ok (.if_icmp .gt 13, 3) := by decide +kernel
theorem own_d8_13 : decode jdk_33_method_22_code 13 = .ok (.getstatic 195, 3) := by decide +kernel
theorem own_d8_16 : decode jdk_33_method_22_code 16 = .ok (.iload_n 0, 1) := by decide +kernel
theorem own_d8_17 : decode jdk_33_method_22_code 17 = .ok (.sipush 128, 3) := by decide +kernel
theorem own_d8_20 : decode jdk_33_method_22_code 20 = .ok (.iadd, 1) := by decide +kernel
theorem own_d8_21 : decode jdk_33_method_22_code 21 = .ok (.aaload, 1) := by decide +kernel
theorem own_d8_22 : decode jdk_33_method_22_code 22 = .ok (.areturn, 1) := by decide +kernel
theorem own_d8_23 : decode jdk_33_method_22_code 23 = .ok (.new 1, 3) := by decide +kernel
theorem own_d8_26 : decode jdk_33_method_22_code 26 = .ok (.dup, 1) := by decide +kernel
theorem own_d8_27 : decode jdk_33_method_22_code 27 = .ok (.iload_n 0, 1) := by decide +kernel
theorem own_d8_28 : decode jdk_33_method_22_code 28 = .ok (.invokespecial 199, 3) := by decide +kernel
theorem own_d8_31 : decode jdk_33_method_22_code 31 = .ok (.areturn, 1) := by decide +kernel
theorem own_ef8 (m : MethodId) (x0 : Int32) : entryFrame m #[(.int x0)] 1 = mkF m 0 #[.val (.int x0)] [] := by first | (simp [entryFrame, mkF, argsToLocals, Value.category]; done) | rfl
def own_Q8 (Z : State) (p1 : Int32) (clc : Cell) (w_cache : Addr) (h0 : Heap) (n0 : Nat) (v : Option Value) (h : Heap) (L : List Loc) : Prop := ∃ (r : Addr), v = some (.ref r) ∧ Fr n0 L ∧ Keep h0 h [] ∧ Exa Z h r "java/lang/Integer" ∧ Fld Z h r "java/lang/Integer" "value" "I" (.int p1)
set_option maxRecDepth 65536 in
set_option maxHeartbeats 40000000 in
theorem own_rm8 (l : Launch) (Z : State) (a0 : Array Value) (hw : ∀ d ∈ tables_1, d.before a0 Z = true) (ws : List Jvm.Cond) (p1 : Int32) (clc : Cell) (w_cache : Addr) (h0 : Heap) (n0 : Nat) (Z0 : n0 ≤ h0.size) (O0 : Old Z n0 h0) (Hc : Bxs Z w_cache clc "java/lang/Integer" "I" (256 : Int32) (fun j => .int (j - 128))) (S_high : Sta Z Z.heap "java/lang/Integer$IntegerCache" "high" "I" (.int (127 : Int32))) (S_cache : Sta Z Z.heap "java/lang/Integer$IntegerCache" "cache" "[Ljava/lang/Integer;" (.ref w_cache)) :
    MetFree l (⟨"java/lang/Integer", "valueOf", "(I)Ljava/lang/Integer;"⟩ : MethodName) (head1 (Jvm.Cond.code (⟨"java/lang/Integer", "valueOf", "(I)Ljava/lang/Integer;"⟩ : MethodName) jdk_33_method_22_code 1 (some (.object "java/lang/Integer")) :: ws) ({ frames := 3, cells := 1, slots := 1, locals := 38 } : Room)) (fun a U => a = #[(.int p1)] ∧ Z.Warmed39 U.vm ∧ U.heap = h0) (fun _ _ _ _ _ => True) (fun _ U o U' => ∃ v L, o = .returned v ∧ own_Q8 Z p1 clc w_cache h0 n0 v U'.heap L ∧ FrameEnd U o U' L ({ frames := 3, cells := 1, slots := 1, locals := 38 } : Room).cells ({ frames := 3, cells := 1, slots := 1, locals := 38 } : Room).slots) := by
  refine MetFree.of_bodySF (plainFor_of_name own_pn75) hisR ?_
  intro p e s m args below meth c s₁ Bd hml0 hP hK
  obtain ⟨rfl, hZ, hh⟩ := hP
  have hx := Bd.exec
  have hby := Bd.bytes
  have hml : c.maxLocals = 1 := hml0
  have hown : s.vm.findClass "java/lang/Integer" = some m.cls := findClass_of_methodNamed Bd.named
  have hnm := (name_of_methodNamed Bd.named Bd.method).1
  have X0 : Stand p l e ({ frames := 3, cells := 1, slots := 1, locals := 38 } : Room) s m #[(.int p1)] below meth c s₁ [] 0 0 := Stand.of_body Bd
  have hS0 : s.Since s.vm 0 := (State.WarmedH.refl s).since 0
  have hk0 : 0 ≤ h0.size := Nat.zero_le _
  have hlk := Bd.notSynchronized
  have e0 : s₁.heap = h0 := by rw [← hh, Bd.state]; rfl
  have N0 := Fr.nil n0
  have pre0 : ∀ t, Steps p.tables e below (s₁.setTop (mkF m 0 #[.val (.int p1)] [])) t → Steps p.tables e below (s₁.setTop (entryFrame m #[(.int p1)] 1)) t := fun t k => castTop (own_ef8 m p1) k
  have k1 : ∀ t, Steps p.tables e below (s₁.setTop (mkF m 3 #[.val (.int p1)] [(.int (-128 : Int32)), (.int p1)])) t → Steps p.tables e below (s₁.setTop (entryFrame m #[(.int p1)] 1)) t := by
    intro t kt
    refine pre0 t ?_
    show Steps p.tables e below (s₁.setTop (mkF m 0 #[.val (.int p1)] [])) _
    refine XS.iloadN X0.here hx rfl (hb hby own_d8_0) rfl ?_
    show Steps p.tables e below (s₁.setTop (mkF m 1 #[.val (.int p1)] [(.int p1)])) _
    refine XS.bipush X0.here hx rfl (hb hby own_d8_1) ?_
    exact kt
  by_cases hc1 : p1 < (-128 : Int32)
  ·
    obtain ⟨T2, h2, X2, e2, E2, A2, D2, -, st2⟩ := newO X0 hx hZ hown (hw _ (List.mem_of_getElem? (i := 116) rfl)) (hw _ (List.mem_of_getElem? (i := 117) rfl)) (hw _ (List.mem_of_getElem? (i := 50) rfl)) e0 (g := (mkF m 23 #[.val (.int p1)] [])) rfl (hb hby own_d8_23) (by decide) (by decide)
    obtain ⟨b2, g2⟩ : ∃ z, z = h0.size := ⟨_, rfl⟩
    rw [← g2] at A2 D2 st2
    have g_b2 : n0 ≤ b2 := Nat.le_trans Z0 (Nat.le_of_eq g2.symm)
    have sz_b2 : h0.size ≤ b2 := Nat.le_of_eq g2.symm
    have O3 := O0.ext E2
    have Z4 := Nat.le_trans Z0 E2.1
    have K5 : Keep h0 h2 [] := (Keep.refl h0 _).ext E2
    have F_value_b2 : Fld Z h2 b2 "java/lang/Integer" "value" "I" (.int (0 : Int32)) := D2 (Or.inr (hw _ (List.mem_of_getElem? (i := 115) rfl))) (ty := .int) (by decide)
    obtain ⟨v6, _, ⟨T6, L6, k6, n6⟩, -, X6, ⟨Lc6, hQ6, l6, y6, z6⟩, st6⟩ := X2.specialBack hx (y := (⟨"java/lang/Integer", "<init>", "(I)V"⟩ : MethodName)) rfl hown (mvT hZ (hw _ (List.mem_of_getElem? (i := 118) rfl))) (mvT hZ (hw _ (List.mem_of_getElem? (i := 119) rfl))) (mvT hZ (hw _ (List.mem_of_getElem? (i := 120) rfl))) (by decide) (backOf (W := 1) (own_rm18 l Z a0 hw [] b2 p1 (0 : Int32) h2 n0 Z4 A2 F_value_b2 g_b2) hZ (hw _ (List.mem_of_getElem? (i := 120) rfl)) (hw _ (List.mem_of_getElem? (i := 50) rfl)) (by decide) (by decide)) (g := (mkF m 28 #[.val (.int p1)] [(.int p1), (.ref b2), (.ref b2)])) rfl (by rw [hml]; rfl) (Steps.refl _) (a := b2) (argsL := [(.int p1)]) (rest := [(.ref b2)]) (lenOf own_pd82 rfl) rfl (by show 2 * 0 + _ ≤ _; exact Nat.le_of_eq rfl) (hb hby own_d8_28) (fun _ _ => ⟨rfl, e2, (by decide : 1 + 0 ≤ _), (by decide : 1 + 0 ≤ _)⟩)
    dsimp only [Pt.U, Pt.locs, Pt.cells, Pt.slots] at X6 l6 y6 z6 st6 hQ6
    subst l6 y6 z6
    obtain ⟨rfl, N6q, K6, Q6_0, Q6_1⟩ := hQ6
    have O7 := O3.keep K6 (allS g_b2 all0)
    have f8 := A2.keep K6
    have Z10 := Nat.le_trans Z4 K6.1
    have K11 : Keep h0 T6.heap [] := Keep.trans K5 K6 (allS (Or.inr sz_b2) all0)
    have N12 := Fr.app N0 N6q
    obtain ⟨fs, hr, hrun, hended, hW, hsame⟩ := X6.leave (hlocks := hlk) (v := some (.ref b2)) (fun h => by rw [Bd.returns] at h; cases h)
    refine ⟨_, _, k1 _ ?_, hrun, hended, _, _, rfl, ?_, ⟨_, rfl⟩, hW, hsame.mono (by decide) (by decide)⟩
    · show Steps p.tables e below (s₁.setTop (mkF m 3 #[.val (.int p1)] [(.int (-128 : Int32)), (.int p1)])) _
      refine XS.icmpYes X0.here hx rfl (pc0 := 3) (pc' := 23) rfl (hb hby own_d8_3) rfl (tlt hc1).1 (by decide) (by decide) ?_
      show Steps p.tables e below (s₁.setTop (mkF m 23 #[.val (.int p1)] [])) _
      refine st2 _ ?_
      show Steps p.tables e below (T2.setTop (mkF m 26 #[.val (.int p1)] [(.ref b2)])) _
      refine XS.dup X2.here hx rfl (hb hby own_d8_26) rfl rfl ?_
      show Steps p.tables e below (T2.setTop (mkF m 27 #[.val (.int p1)] [(.ref b2), (.ref b2)])) _
      refine XS.iloadN X2.here hx rfl (hb hby own_d8_27) rfl ?_
      show Steps p.tables e below (T2.setTop (mkF m 28 #[.val (.int p1)] [(.int p1), (.ref b2), (.ref b2)])) _
      refine st6.trans ?_
      show Steps p.tables e below (T6.setTop (mkF m 31 #[.val (.int p1)] [(.ref b2)])) _
      jvm_step X6.here [X6.here.top, hx, (hb hby own_d8_31), X6.method', Bd.returns, Value.isRef, FieldType.isReference]
      first | (intro acts; rw [hr _ acts rfl rfl rfl]) | rw [hr _ _ rfl rfl rfl]
      exact Steps.refl _
    · show own_Q8 Z p1 clc w_cache h0 n0 _ T6.heap _
      exact ⟨b2, rfl, N12, K11, Q6_0, Q6_1⟩
  ·
    obtain ⟨T13, X13, e13, st13⟩ := getS2 X0 hx hZ hown (host := "") (Or.inl (hw _ (List.mem_of_getElem? (i := 52) rfl))) Via.refl e0 (S_high.ext O0.2) (g := (mkF m 7 #[.val (.int p1)] [(.int p1)])) rfl (hb hby own_d8_7)
    have k14 : ∀ t, Steps p.tables e below (T13.setTop (mkF m 10 #[.val (.int p1)] [(.int (127 : Int32)), (.int p1)])) t → Steps p.tables e below (s₁.setTop (entryFrame m #[(.int p1)] 1)) t := by
      intro t kt
      refine k1 t ?_
      show Steps p.tables e below (s₁.setTop (mkF m 3 #[.val (.int p1)] [(.int (-128 : Int32)), (.int p1)])) _
      refine XS.icmpNo X0.here hx rfl (hb hby own_d8_3) rfl (flt hc1).1 ?_
      show Steps p.tables e below (s₁.setTop (mkF m 6 #[.val (.int p1)] [])) _
      refine XS.iloadN X0.here hx rfl (hb hby own_d8_6) rfl ?_
      show Steps p.tables e below (s₁.setTop (mkF m 7 #[.val (.int p1)] [(.int p1)])) _
      refine st13 _ ?_
      exact kt
    by_cases hc2 : (127 : Int32) < p1
    ·
      obtain ⟨T15, h15, X15, e15, E15, A15, D15, -, st15⟩ := newO X13 hx hZ hown (hw _ (List.mem_of_getElem? (i := 116) rfl)) (hw _ (List.mem_of_getElem? (i := 117) rfl)) (hw _ (List.mem_of_getElem? (i := 50) rfl)) e13 (g := (mkF m 23 #[.val (.int p1)] [])) rfl (hb hby own_d8_23) (by decide) (by decide)
      obtain ⟨b15, g15⟩ : ∃ z, z = h0.size := ⟨_, rfl⟩
      rw [← g15] at A15 D15 st15
      have g_b15 : n0 ≤ b15 := Nat.le_trans Z0 (Nat.le_of_eq g15.symm)
      have sz_b15 : h0.size ≤ b15 := Nat.le_of_eq g15.symm
      have O16 := O0.ext E15
      have Z17 := Nat.le_trans Z0 E15.1
      have K18 : Keep h0 h15 [] := (Keep.refl h0 _).ext E15
      have F_value_b15 : Fld Z h15 b15 "java/lang/Integer" "value" "I" (.int (0 : Int32)) := D15 (Or.inr (hw _ (List.mem_of_getElem? (i := 115) rfl))) (ty := .int) (by decide)
      obtain ⟨v19, _, ⟨T19, L19, k19, n19⟩, -, X19, ⟨Lc19, hQ19, l19, y19, z19⟩, st19⟩ := X15.specialBack hx (y := (⟨"java/lang/Integer", "<init>", "(I)V"⟩ : MethodName)) rfl hown (mvT hZ (hw _ (List.mem_of_getElem? (i := 118) rfl))) (mvT hZ (hw _ (List.mem_of_getElem? (i := 119) rfl))) (mvT hZ (hw _ (List.mem_of_getElem? (i := 120) rfl))) (by decide) (backOf (W := 1) (own_rm18 l Z a0 hw [] b15 p1 (0 : Int32) h15 n0 Z17 A15 F_value_b15 g_b15) hZ (hw _ (List.mem_of_getElem? (i := 120) rfl)) (hw _ (List.mem_of_getElem? (i := 50) rfl)) (by decide) (by decide)) (g := (mkF m 28 #[.val (.int p1)] [(.int p1), (.ref b15), (.ref b15)])) rfl (by rw [hml]; rfl) (Steps.refl _) (a := b15) (argsL := [(.int p1)]) (rest := [(.ref b15)]) (lenOf own_pd82 rfl) rfl (by show 2 * 0 + _ ≤ _; exact Nat.le_of_eq rfl) (hb hby own_d8_28) (fun _ _ => ⟨rfl, e15, (by decide : 1 + 0 ≤ _), (by decide : 1 + 0 ≤ _)⟩)
      dsimp only [Pt.U, Pt.locs, Pt.cells, Pt.slots] at X19 l19 y19 z19 st19 hQ19
      subst l19 y19 z19
      obtain ⟨rfl, N19q, K19, Q19_0, Q19_1⟩ := hQ19
      have O20 := O16.keep K19 (allS g_b15 all0)
      have f21 := A15.keep K19
      have Z23 := Nat.le_trans Z17 K19.1
      have K24 : Keep h0 T19.heap [] := Keep.trans K18 K19 (allS (Or.inr sz_b15) all0)
      have N25 := Fr.app N0 N19q
      obtain ⟨fs, hr, hrun, hended, hW, hsame⟩ := X19.leave (hlocks := hlk) (v := some (.ref b15)) (fun h => by rw [Bd.returns] at h; cases h)
      refine ⟨_, _, k14 _ ?_, hrun, hended, _, _, rfl, ?_, ⟨_, rfl⟩, hW, hsame.mono (by decide) (by decide)⟩
      · show Steps p.tables e below (T13.setTop (mkF m 10 #[.val (.int p1)] [(.int (127 : Int32)), (.int p1)])) _
        refine XS.icmpYes X13.here hx rfl (pc0 := 10) (pc' := 23) rfl (hb hby own_d8_10) rfl (tlt hc2).2.2.1 (by decide) (by decide) ?_
        show Steps p.tables e below (T13.setTop (mkF m 23 #[.val (.int p1)] [])) _
        refine st15 _ ?_
        show Steps p.tables e below (T15.setTop (mkF m 26 #[.val (.int p1)] [(.ref b15)])) _
        refine XS.dup X15.here hx rfl (hb hby own_d8_26) rfl rfl ?_
        show Steps p.tables e below (T15.setTop (mkF m 27 #[.val (.int p1)] [(.ref b15), (.ref b15)])) _
        refine XS.iloadN X15.here hx rfl (hb hby own_d8_27) rfl ?_
        show Steps p.tables e below (T15.setTop (mkF m 28 #[.val (.int p1)] [(.int p1), (.ref b15), (.ref b15)])) _
        refine st19.trans ?_
        show Steps p.tables e below (T19.setTop (mkF m 31 #[.val (.int p1)] [(.ref b15)])) _
        jvm_step X19.here [X19.here.top, hx, (hb hby own_d8_31), X19.method', Bd.returns, Value.isRef, FieldType.isReference]
        first | (intro acts; rw [hr _ acts rfl rfl rfl]) | rw [hr _ _ rfl rfl rfl]
        exact Steps.refl _
      · show own_Q8 Z p1 clc w_cache h0 n0 _ T19.heap _
        exact ⟨b15, rfl, N25, K24, Q19_0, Q19_1⟩
    ·
      obtain ⟨T26, X26, e26, st26⟩ := getS2 X13 hx hZ hown (host := "") (Or.inl (hw _ (List.mem_of_getElem? (i := 54) rfl))) Via.refl e13 (S_cache.ext O0.2) (g := (mkF m 13 #[.val (.int p1)] [])) rfl (hb hby own_d8_13)
      obtain ⟨ArC, szC, nnC⟩ := Hc.ext O0.2
      have hinC : ¬ ((p1 + (128 : Int32)) < 0 ∨ clc.slots.size ≤ ((p1 + (128 : Int32))).toNatClampNeg) := inb_of szC (own_cin p1 hc1 hc2)
      obtain ⟨el, hatC, EelC, FelC⟩ := Hc.2.2.2 (p1 + (128 : Int32)) hinC
      have FelD : Fld Z Z.heap el "java/lang/Integer" "value" "I" (.int p1) := by rw [← own_back p1]; exact FelC
      obtain ⟨fs, hr, hrun, hended, hW, hsame⟩ := X26.leave (hlocks := hlk) (v := some (.ref el)) (fun h => by rw [Bd.returns] at h; cases h)
      refine ⟨_, _, k14 _ ?_, hrun, hended, _, _, rfl, ?_, ⟨_, rfl⟩, hW, hsame.mono (by decide) (by decide)⟩
      · show Steps p.tables e below (T13.setTop (mkF m 10 #[.val (.int p1)] [(.int (127 : Int32)), (.int p1)])) _
        refine XS.icmpNo X13.here hx rfl (hb hby own_d8_10) rfl (flt hc2).2.2.1 ?_
        show Steps p.tables e below (T13.setTop (mkF m 13 #[.val (.int p1)] [])) _
        refine st26 _ ?_
        show Steps p.tables e below (T26.setTop (mkF m 16 #[.val (.int p1)] [(.ref w_cache)])) _
        refine XS.iloadN X26.here hx rfl (hb hby own_d8_16) rfl ?_
        show Steps p.tables e below (T26.setTop (mkF m 17 #[.val (.int p1)] [(.int p1), (.ref w_cache)])) _
        refine XS.sipush X26.here hx rfl (hb hby own_d8_17) ?_
        show Steps p.tables e below (T26.setTop (mkF m 20 #[.val (.int p1)] [(.int (128 : Int32)), (.int p1), (.ref w_cache)])) _
        refine XS.iadd X26.here hx rfl (hb hby own_d8_20) rfl ?_
        show Steps p.tables e below (T26.setTop (mkF m 21 #[.val (.int p1)] [(.int (p1 + (128 : Int32))), (.ref w_cache)])) _
        refine X26.aaload hx (j := (p1 + (128 : Int32))) (v := .ref el) (by rw [e26]; exact ArC.1) (State.isArrayOf_alike hZ.alike ArC.2.1) rfl ArC.2.2 hinC hatC (g := (mkF m 21 #[.val (.int p1)] [(.int (p1 + (128 : Int32))), (.ref w_cache)])) rfl rfl (hb hby own_d8_21) _ ?_
        show Steps p.tables e below (T26.setTop (mkF m 22 #[.val (.int p1)] [(.ref el)])) _
        jvm_step X26.here [X26.here.top, hx, (hb hby own_d8_22), X26.method', Bd.returns, Value.isRef, FieldType.isReference]
        first | (intro acts; rw [hr _ acts rfl rfl rfl]) | rw [hr _ _ rfl rfl rfl]
        exact Steps.refl _
      · show own_Q8 Z p1 clc w_cache h0 n0 _ T26.heap _
        rw [e26]
        exact ⟨el, rfl, N0, (Keep.refl h0 _), (EelC.ext O0.2), (FelD.ext O0.2)⟩
-- body 4, variant A
theorem own_d4_0 : decode prog_6_method_4_code 0 = .ok (.aload_n 0, 1) := by decide +kernel
theorem own_d4_1 : decode prog_6_method_4_code 1 = .ok (.invokevirtual 19, 3) := by decide +kernel
theorem own_d4_4 : decode prog_6_method_4_code 4 = .ok (.ifCond .eq 9, 3) := by decide +kernel
theorem own_d4_7 : decode prog_6_method_4_code 7 = .ok (.invokestatic 27, 3) := by decide +kernel
theorem own_d4_10 : decode prog_6_method_4_code 10 = .ok (.goto 20, 3) := by decide +kernel
theorem own_d4_30 : decode prog_6_method_4_code 30 = .ok (.areturn, 1) := by decide +kernel
theorem own_vA_ef4 (m : MethodId) (x0 : Addr) : entryFrame m #[(.ref x0)] 1 = mkF m 0 #[.val (.ref x0)] [] := by first | (simp [entryFrame, mkF, argsToLocals, Value.category]; done) | rfl
def own_vA_f4 (w_EMPTY_LIST : Addr) : Addr := w_EMPTY_LIST
def own_vA_Q4 (Z : State) (a1 : Addr) (w_first_a1 : Int32) (w_max_a1 : Int32) (w_EMPTY_LIST : Addr) (h0 : Heap) (n0 : Nat) (v : Option Value) (h : Heap) (L : List Loc) : Prop := v = some (.ref (own_vA_f4 w_EMPTY_LIST)) ∧ Fr n0 L ∧ h = h0
set_option maxRecDepth 65536 in
set_option maxHeartbeats 40000000 in
theorem own_vA_rm4 (l : Launch) (Z : State) (a0 : Array Value) (hw : ∀ d ∈ tables_1, d.before a0 Z = true) (ws : List Jvm.Cond) (a1 : Addr) (w_first_a1 : Int32) (w_max_a1 : Int32) (w_EMPTY_LIST : Addr) (h0 : Heap) (n0 : Nat) (Z0 : n0 ≤ h0.size) (O0 : Old Z n0 h0) (hf : w_first_a1 = (0 : Int32)) (hm : w_max_a1 = (2147483647 : Int32)) (F_first_a1 : Fld Z h0 a1 "com/example/fetch_plan/fetchplan/Page" "first" "I" (.int w_first_a1)) (F_max_a1 : Fld Z h0 a1 "com/example/fetch_plan/fetchplan/Page" "max" "I" (.int w_max_a1)) (E_a1 : Exa Z h0 a1 "com/example/fetch_plan/fetchplan/Page") (S_EMPTY_LIST : Sta Z Z.heap "java/util/ImmutableCollections" "EMPTY_LIST" "Ljava/util/ImmutableCollections$ListN;" (.ref w_EMPTY_LIST)) :
    MetFree l (⟨"com/example/fetch_plan/fetchplan/Page", "parameters", "()Ljava/util/List;"⟩ : MethodName) (head1 (Jvm.Cond.code (⟨"com/example/fetch_plan/fetchplan/Page", "parameters", "()Ljava/util/List;"⟩ : MethodName) prog_6_method_4_code 1 (some (.object "java/util/List")) :: ws) ({ frames := 1, cells := 0, slots := 0, locals := 12 } : Room)) (fun a U => a = #[(.ref a1)] ∧ Z.Warmed39 U.vm ∧ U.heap = h0) (fun _ _ _ _ _ => True) (fun _ U o U' => ∃ v L, o = .returned v ∧ own_vA_Q4 Z a1 w_first_a1 w_max_a1 w_EMPTY_LIST h0 n0 v U'.heap L ∧ FrameEnd U o U' L ({ frames := 1, cells := 0, slots := 0, locals := 12 } : Room).cells ({ frames := 1, cells := 0, slots := 0, locals := 12 } : Room).slots) := by
  refine MetFree.of_bodySF (plainFor_of_name own_pn5) hisR ?_
  intro p e s m args below meth c s₁ Bd hml0 hP hK
  obtain ⟨rfl, hZ, hh⟩ := hP
  have hx := Bd.exec
  have hby := Bd.bytes
  have hml : c.maxLocals = 1 := hml0
  have hown : s.vm.findClass "com/example/fetch_plan/fetchplan/Page" = some m.cls := findClass_of_methodNamed Bd.named
  have hnm := (name_of_methodNamed Bd.named Bd.method).1
  have X0 : Stand p l e ({ frames := 1, cells := 0, slots := 0, locals := 12 } : Room) s m #[(.ref a1)] below meth c s₁ [] 0 0 := Stand.of_body Bd
  have hS0 : s.Since s.vm 0 := (State.WarmedH.refl s).since 0
  have hk0 : 0 ≤ h0.size := Nat.zero_le _
  have hlk := Bd.notSynchronized
  have e0 : s₁.heap = h0 := by rw [← hh, Bd.state]; rfl
  have N0 := Fr.nil n0
  have pre0 : ∀ t, Steps p.tables e below (s₁.setTop (mkF m 0 #[.val (.ref a1)] [])) t → Steps p.tables e below (s₁.setTop (entryFrame m #[(.ref a1)] 1)) t := fun t k => castTop (own_vA_ef4 m a1) k
  obtain ⟨cq1, kq1, q1a, q1b, q1c⟩ := isOf hZ e0 E_a1
  obtain ⟨v1, _, ⟨T1, L1, k1, n1⟩, -, X1, ⟨Lc1, hQ1, l1, y1, z1⟩, st1⟩ := X0.virtualBack hx (y := (⟨"com/example/fetch_plan/fetchplan/Page", "keepsAll", "()Z"⟩ : MethodName)) (z := (⟨"com/example/fetch_plan/fetchplan/Page", "keepsAll", "()Z"⟩ : MethodName)) hown (mvT hZ (hw _ (List.mem_of_getElem? (i := 24) rfl))) (mvT hZ (hw _ (List.mem_of_getElem? (i := 25) rfl))) (notFace_of_selects (args := #[]) (mvT hZ (hw _ (List.mem_of_getElem? (i := 27) rfl)))) (mvT hZ (hw _ (List.mem_of_getElem? (i := 27) rfl))) (mvT hZ (hw _ (List.mem_of_getElem? (i := 26) rfl))) (by decide) (backOf (W := 0) (own_rm5 l Z a0 hw [] a1 w_first_a1 w_max_a1 h0 n0 Z0 F_first_a1 F_max_a1) hZ (hw _ (List.mem_of_getElem? (i := 28) rfl)) (hw _ (List.mem_of_getElem? (i := 3) rfl)) (by decide) (by decide)) q1a q1c (g := (mkF m 1 #[.val (.ref a1)] [(.ref a1)])) rfl (by rw [hml]; rfl) (Steps.refl _) (argsL := []) (rest := []) (lenOf own_pd100 rfl) rfl (by show 2 * 0 + _ ≤ _; exact Nat.le_of_eq rfl) (hb hby own_d4_1) (fun _ _ => ⟨rfl, e0, (by decide : 0 + 0 ≤ _), (by decide : 0 + 0 ≤ _)⟩)
  dsimp only [Pt.U, Pt.locs, Pt.cells, Pt.slots] at X1 l1 y1 z1 st1 hQ1
  subst l1 y1 z1
  obtain ⟨hv1, N1q, e1⟩ := hQ1
  have N2 := Fr.app N0 N1q
  have hw3 : v1 = some (.int (1 : Int32)) := hv1.trans (by rw [own_f5, if_pos hf, if_pos hm])
  subst hw3
  obtain ⟨v4, _, ⟨T4, L4, k4, n4⟩, -, X4, ⟨Lc4, hQ4, l4, y4, z4⟩, st4⟩ := Jvm.LawKit.callS X1 hx (y := (⟨"java/util/List", "of", "()Ljava/util/List;"⟩ : MethodName)) hown (mvT hZ (hw _ (List.mem_of_getElem? (i := 30) rfl))) (mvT hZ (hw _ (List.mem_of_getElem? (i := 31) rfl))) (mvT hZ (hw _ (List.mem_of_getElem? (i := 32) rfl))) (mvT hZ (hw _ (List.mem_of_getElem? (i := 33) rfl))) (by decide) (backOf (W := 0) (own_rm6 l Z a0 hw [] w_EMPTY_LIST h0 n0 Z0 O0 S_EMPTY_LIST) hZ (hw _ (List.mem_of_getElem? (i := 33) rfl)) (hw _ (List.mem_of_getElem? (i := 32) rfl)) (by decide) (by decide)) (g := (mkF m 7 #[.val (.ref a1)] [])) rfl (by rw [hml]; rfl) (argsL := []) (rest := []) (lenOf own_pd101 rfl) rfl (by show 2 * 0 + _ ≤ _; exact Nat.le_of_eq rfl) (hb hby own_d4_7) (fun _ _ => ⟨rfl, e1, (by decide : 0 + 0 ≤ _), (by decide : 0 + 0 ≤ _)⟩)
  dsimp only [Pt.U, Pt.locs, Pt.cells, Pt.slots] at X4 l4 y4 z4 st4 hQ4
  subst l4 y4 z4
  obtain ⟨hv4, N4q, e4⟩ := hQ4
  have N5 := Fr.app N2 N4q
  rw [show (own_f6 w_EMPTY_LIST) = w_EMPTY_LIST from by first | rfl | decide | simp [own_f6]] at hv4
  subst hv4
  obtain ⟨fs, hr, hrun, hended, hW, hsame⟩ := X4.leave (hlocks := hlk) (v := some (.ref w_EMPTY_LIST)) (fun h => by rw [Bd.returns] at h; cases h)
  refine ⟨_, _, pre0 _ ?_, hrun, hended, _, _, rfl, ?_, ⟨_, rfl⟩, hW, hsame.mono (by decide) (by decide)⟩
  · show Steps p.tables e below (s₁.setTop (mkF m 0 #[.val (.ref a1)] [])) _
    refine XS.aloadN X0.here hx rfl (hb hby own_d4_0) rfl rfl ?_
    show Steps p.tables e below (s₁.setTop (mkF m 1 #[.val (.ref a1)] [(.ref a1)])) _
    refine st1.trans ?_
    show Steps p.tables e below (T1.setTop (mkF m 4 #[.val (.ref a1)] [(.int (1 : Int32))])) _
    refine XS.ifNo X1.here hx rfl (hb hby own_d4_4) rfl ((if0 _ _).trans (feq (by decide : ¬ ((1 : Int32) = (0 : Int32)))).1) ?_
    show Steps p.tables e below (T1.setTop (mkF m 7 #[.val (.ref a1)] [])) _
    refine st4 _ ?_
    show Steps p.tables e below (T4.setTop (mkF m 10 #[.val (.ref a1)] [(.ref w_EMPTY_LIST)])) _
    refine XS.goto X4.here hx rfl (pc0 := 10) (pc' := 30) rfl (hb hby own_d4_10) (by decide) (by decide) ?_
    show Steps p.tables e below (T4.setTop (mkF m 30 #[.val (.ref a1)] [(.ref w_EMPTY_LIST)])) _
    jvm_step X4.here [X4.here.top, hx, (hb hby own_d4_30), X4.method', Bd.returns, Value.isRef, FieldType.isReference]
    first | (intro acts; rw [hr _ acts rfl rfl rfl]) | rw [hr _ _ rfl rfl rfl]
    exact Steps.refl _
  · show own_vA_Q4 Z a1 w_first_a1 w_max_a1 w_EMPTY_LIST h0 n0 _ T4.heap _
    rw [e4]
    exact ⟨(by rw [own_vA_f4]), N5, rfl⟩
-- body 4, variant B
theorem own_d4_13 : decode prog_6_method_4_code 13 = .ok (.aload_n 0, 1) := by decide +kernel
theorem own_d4_14 : decode prog_6_method_4_code 14 = .ok (.getfield 9, 3) := by decide +kernel
theorem own_d4_17 : decode prog_6_method_4_code 17 = .ok (.invokestatic 33, 3) := by decide +kernel
theorem own_d4_20 : decode prog_6_method_4_code 20 = .ok (.aload_n 0, 1) := by decide +kernel
theorem own_d4_21 : decode prog_6_method_4_code 21 = .ok (.getfield 15, 3) := by decide +kernel
theorem own_d4_24 : decode prog_6_method_4_code 24 = .ok (.invokestatic 33, 3) := by decide +kernel
theorem own_d4_27 : decode prog_6_method_4_code 27 = .ok (.invokestatic 37, 3) := by decide +kernel
theorem own_vB_ef4 (m : MethodId) (x0 : Addr) : entryFrame m #[(.ref x0)] 1 = mkF m 0 #[.val (.ref x0)] [] := by first | (simp [entryFrame, mkF, argsToLocals, Value.category]; done) | rfl
def own_vB_Q4 (Z : State) (a1 : Addr) (clc : Cell) (w_first_a1 : Int32) (w_max_a1 : Int32) (w_cache : Addr) (h0 : Heap) (n0 : Nat) (v : Option Value) (h : Heap) (L : List Loc) : Prop := ∃ (r : Addr) (x1 : Addr) (x2 : Addr), v = some (.ref r) ∧ Fr n0 L ∧ Keep h0 h [] ∧ h0.size ≤ r ∧ Exa Z h x1 "java/lang/Integer" ∧ Fld Z h x1 "java/lang/Integer" "value" "I" (.int w_first_a1) ∧ Exa Z h x2 "java/lang/Integer" ∧ Fld Z h x2 "java/lang/Integer" "value" "I" (.int w_max_a1) ∧ Exa Z h r "java/util/ImmutableCollections$List12" ∧ Fld Z h r "java/util/ImmutableCollections$List12" "e0" "Ljava/lang/Object;" (.ref x1) ∧ Fld Z h r "java/util/ImmutableCollections$List12" "e1" "Ljava/lang/Object;" (.ref x2)
set_option maxRecDepth 65536 in
set_option maxHeartbeats 40000000 in
theorem own_vB_rm4 (l : Launch) (Z : State) (a0 : Array Value) (hw : ∀ d ∈ tables_1, d.before a0 Z = true) (ws : List Jvm.Cond) (a1 : Addr) (clc : Cell) (w_first_a1 : Int32) (w_max_a1 : Int32) (w_cache : Addr) (h0 : Heap) (n0 : Nat) (Z0 : n0 ≤ h0.size) (O0 : Old Z n0 h0) (hf : w_first_a1 = (0 : Int32)) (hm : ¬ w_max_a1 = (2147483647 : Int32)) (Hc : Bxs Z w_cache clc "java/lang/Integer" "I" (256 : Int32) (fun j => .int (j - 128))) (F_first_a1 : Fld Z h0 a1 "com/example/fetch_plan/fetchplan/Page" "first" "I" (.int w_first_a1)) (F_max_a1 : Fld Z h0 a1 "com/example/fetch_plan/fetchplan/Page" "max" "I" (.int w_max_a1)) (E_a1 : Exa Z h0 a1 "com/example/fetch_plan/fetchplan/Page") (S_high : Sta Z Z.heap "java/lang/Integer$IntegerCache" "high" "I" (.int (127 : Int32))) (S_cache : Sta Z Z.heap "java/lang/Integer$IntegerCache" "cache" "[Ljava/lang/Integer;" (.ref w_cache)) :
    MetFree l (⟨"com/example/fetch_plan/fetchplan/Page", "parameters", "()Ljava/util/List;"⟩ : MethodName) (head1 (Jvm.Cond.code (⟨"com/example/fetch_plan/fetchplan/Page", "parameters", "()Ljava/util/List;"⟩ : MethodName) prog_6_method_4_code 1 (some (.object "java/util/List")) :: ws) ({ frames := 6, cells := 3, slots := 4, locals := 76 } : Room)) (fun a U => a = #[(.ref a1)] ∧ Z.Warmed39 U.vm ∧ U.heap = h0) (fun _ _ _ _ _ => True) (fun _ U o U' => ∃ v L, o = .returned v ∧ own_vB_Q4 Z a1 clc w_first_a1 w_max_a1 w_cache h0 n0 v U'.heap L ∧ FrameEnd U o U' L ({ frames := 6, cells := 3, slots := 4, locals := 76 } : Room).cells ({ frames := 6, cells := 3, slots := 4, locals := 76 } : Room).slots) := by
  refine MetFree.of_bodySF (plainFor_of_name own_pn5) hisR ?_
  intro p e s m args below meth c s₁ Bd hml0 hP hK
  obtain ⟨rfl, hZ, hh⟩ := hP
  have hx := Bd.exec
  have hby := Bd.bytes
  have hml : c.maxLocals = 1 := hml0
  have hown : s.vm.findClass "com/example/fetch_plan/fetchplan/Page" = some m.cls := findClass_of_methodNamed Bd.named
  have hnm := (name_of_methodNamed Bd.named Bd.method).1
  have X0 : Stand p l e ({ frames := 6, cells := 3, slots := 4, locals := 76 } : Room) s m #[(.ref a1)] below meth c s₁ [] 0 0 := Stand.of_body Bd
  have hS0 : s.Since s.vm 0 := (State.WarmedH.refl s).since 0
  have hk0 : 0 ≤ h0.size := Nat.zero_le _
  have hlk := Bd.notSynchronized
  have e0 : s₁.heap = h0 := by rw [← hh, Bd.state]; rfl
  have N0 := Fr.nil n0
  have pre0 : ∀ t, Steps p.tables e below (s₁.setTop (mkF m 0 #[.val (.ref a1)] [])) t → Steps p.tables e below (s₁.setTop (entryFrame m #[(.ref a1)] 1)) t := fun t k => castTop (own_vB_ef4 m a1) k
  obtain ⟨cq1, kq1, q1a, q1b, q1c⟩ := isOf hZ e0 E_a1
  obtain ⟨v1, _, ⟨T1, L1, k1, n1⟩, -, X1, ⟨Lc1, hQ1, l1, y1, z1⟩, st1⟩ := X0.virtualBack hx (y := (⟨"com/example/fetch_plan/fetchplan/Page", "keepsAll", "()Z"⟩ : MethodName)) (z := (⟨"com/example/fetch_plan/fetchplan/Page", "keepsAll", "()Z"⟩ : MethodName)) hown (mvT hZ (hw _ (List.mem_of_getElem? (i := 24) rfl))) (mvT hZ (hw _ (List.mem_of_getElem? (i := 25) rfl))) (notFace_of_selects (args := #[]) (mvT hZ (hw _ (List.mem_of_getElem? (i := 27) rfl)))) (mvT hZ (hw _ (List.mem_of_getElem? (i := 27) rfl))) (mvT hZ (hw _ (List.mem_of_getElem? (i := 26) rfl))) (by decide) (backOf (W := 0) (own_rm5 l Z a0 hw [] a1 w_first_a1 w_max_a1 h0 n0 Z0 F_first_a1 F_max_a1) hZ (hw _ (List.mem_of_getElem? (i := 28) rfl)) (hw _ (List.mem_of_getElem? (i := 3) rfl)) (by decide) (by decide)) q1a q1c (g := (mkF m 1 #[.val (.ref a1)] [(.ref a1)])) rfl (by rw [hml]; rfl) (Steps.refl _) (argsL := []) (rest := []) (lenOf own_pd100 rfl) rfl (by show 2 * 0 + _ ≤ _; exact Nat.le_of_eq rfl) (hb hby own_d4_1) (fun _ _ => ⟨rfl, e0, (by decide : 0 + 0 ≤ _), (by decide : 0 + 0 ≤ _)⟩)
  dsimp only [Pt.U, Pt.locs, Pt.cells, Pt.slots] at X1 l1 y1 z1 st1 hQ1
  subst l1 y1 z1
  obtain ⟨hv1, N1q, e1⟩ := hQ1
  have N2 := Fr.app N0 N1q
  have hw3 : v1 = some (.int (0 : Int32)) := hv1.trans (by rw [own_f5, if_pos hf, if_neg hm])
  subst hw3
  obtain ⟨T4, X4, e4, st4⟩ := getF X1 hx hZ hown (host := "") (Or.inl (hw _ (List.mem_of_getElem? (i := 15) rfl))) Via.refl e1 F_first_a1 (g := (mkF m 14 #[.val (.ref a1)] [(.ref a1)])) rfl rfl (hb hby own_d4_14)
  obtain ⟨v5, _, ⟨T5, L5, k5, n5⟩, -, X5, ⟨Lc5, hQ5, l5, y5, z5⟩, st5⟩ := Jvm.LawKit.callS X4 hx (y := (⟨"java/lang/Integer", "valueOf", "(I)Ljava/lang/Integer;"⟩ : MethodName)) hown (mvT hZ (hw _ (List.mem_of_getElem? (i := 48) rfl))) (mvT hZ (hw _ (List.mem_of_getElem? (i := 49) rfl))) (mvT hZ (hw _ (List.mem_of_getElem? (i := 50) rfl))) (mvT hZ (hw _ (List.mem_of_getElem? (i := 51) rfl))) (by decide) (backOf (W := 0) (own_rm8 l Z a0 hw [] w_first_a1 clc w_cache h0 n0 Z0 O0 Hc S_high S_cache) hZ (hw _ (List.mem_of_getElem? (i := 51) rfl)) (hw _ (List.mem_of_getElem? (i := 50) rfl)) (by decide) (by decide)) (g := (mkF m 17 #[.val (.ref a1)] [(.int w_first_a1)])) rfl (by rw [hml]; rfl) (argsL := [(.int w_first_a1)]) (rest := []) (lenOf own_pd108 rfl) rfl (by show 2 * 0 + _ ≤ _; exact Nat.le_of_eq rfl) (hb hby own_d4_17) (fun _ _ => ⟨rfl, e4, (by decide : 0 + 1 ≤ _), (by decide : 0 + 1 ≤ _)⟩)
  dsimp only [Pt.U, Pt.locs, Pt.cells, Pt.slots] at X5 l5 y5 z5 st5 hQ5
  subst l5 y5 z5
  obtain ⟨r5, rfl, N5q, K5, Q5_0, Q5_1⟩ := hQ5
  have O6 := O0.keep K5 all0
  have f7 := F_first_a1.keep K5 nin0
  have f8 := F_max_a1.keep K5 nin0
  have f9 := E_a1.keep K5
  have Z10 := Nat.le_trans Z0 K5.1
  have K11 : Keep h0 T5.heap [] := Keep.trans (Keep.refl h0 _) K5 all0
  have N12 := Fr.app N2 N5q
  obtain ⟨T13, X13, e13, st13⟩ := getF X5 hx hZ hown (host := "") (Or.inl (hw _ (List.mem_of_getElem? (i := 17) rfl))) Via.refl rfl f8 (g := (mkF m 21 #[.val (.ref a1)] [(.ref a1), (.ref r5)])) rfl rfl (hb hby own_d4_21)
  obtain ⟨v14, _, ⟨T14, L14, k14, n14⟩, -, X14, ⟨Lc14, hQ14, l14, y14, z14⟩, st14⟩ := Jvm.LawKit.callS X13 hx (y := (⟨"java/lang/Integer", "valueOf", "(I)Ljava/lang/Integer;"⟩ : MethodName)) hown (mvT hZ (hw _ (List.mem_of_getElem? (i := 48) rfl))) (mvT hZ (hw _ (List.mem_of_getElem? (i := 49) rfl))) (mvT hZ (hw _ (List.mem_of_getElem? (i := 50) rfl))) (mvT hZ (hw _ (List.mem_of_getElem? (i := 51) rfl))) (by decide) (backOf (W := 1) (own_rm8 l Z a0 hw [] w_max_a1 clc w_cache T5.heap n0 Z10 O6 Hc S_high S_cache) hZ (hw _ (List.mem_of_getElem? (i := 51) rfl)) (hw _ (List.mem_of_getElem? (i := 50) rfl)) (by decide) (by decide)) (g := (mkF m 24 #[.val (.ref a1)] [(.int w_max_a1), (.ref r5)])) rfl (by rw [hml]; rfl) (argsL := [(.int w_max_a1)]) (rest := [(.ref r5)]) (lenOf own_pd108 rfl) rfl (by show 2 * 0 + _ ≤ _; exact Nat.le_of_eq rfl) (hb hby own_d4_24) (fun _ _ => ⟨rfl, e13, (by decide : 1 + 1 ≤ _), (by decide : 1 + 1 ≤ _)⟩)
  dsimp only [Pt.U, Pt.locs, Pt.cells, Pt.slots] at X14 l14 y14 z14 st14 hQ14
  subst l14 y14 z14
  obtain ⟨r14, rfl, N14q, K14, Q14_0, Q14_1⟩ := hQ14
  have O15 := O6.keep K14 all0
  have f16 := f7.keep K14 nin0
  have f17 := f8.keep K14 nin0
  have f18 := f9.keep K14
  have f19 := Q5_0.keep K14
  have f20 := Q5_1.keep K14 nin0
  have Z21 := Nat.le_trans Z10 K14.1
  have K22 : Keep h0 T14.heap [] := Keep.trans K11 K14 all0
  have N23 := Fr.app N12 N14q
  obtain ⟨v24, _, ⟨T24, L24, k24, n24⟩, -, X24, ⟨Lc24, hQ24, l24, y24, z24⟩, st24⟩ := Jvm.LawKit.callS X14 hx (y := (⟨"java/util/List", "of", "(Ljava/lang/Object;Ljava/lang/Object;)Ljava/util/List;"⟩ : MethodName)) hown (mvT hZ (hw _ (List.mem_of_getElem? (i := 55) rfl))) (mvT hZ (hw _ (List.mem_of_getElem? (i := 56) rfl))) (mvT hZ (hw _ (List.mem_of_getElem? (i := 32) rfl))) (mvT hZ (hw _ (List.mem_of_getElem? (i := 57) rfl))) (by decide) (backOf (W := 0) (own_rm9 l Z a0 hw [] r5 r14 T14.heap n0 Z21) hZ (hw _ (List.mem_of_getElem? (i := 57) rfl)) (hw _ (List.mem_of_getElem? (i := 32) rfl)) (by decide) (by decide)) (g := (mkF m 27 #[.val (.ref a1)] [(.ref r14), (.ref r5)])) rfl (by rw [hml]; rfl) (argsL := [(.ref r5), (.ref r14)]) (rest := []) (lenOf own_pd109 rfl) rfl (by show 2 * 0 + _ ≤ _; exact Nat.le_of_eq rfl) (hb hby own_d4_27) (fun _ _ => ⟨rfl, rfl, (by decide : 2 + 1 ≤ _), (by decide : 2 + 2 ≤ _)⟩)
  dsimp only [Pt.U, Pt.locs, Pt.cells, Pt.slots] at X24 l24 y24 z24 st24 hQ24
  subst l24 y24 z24
  obtain ⟨r24, rfl, N24q, K24, hr24, Q24_0, Q24_1, Q24_2⟩ := hQ24
  have ne_a1_r24 : a1 ≠ r24 := Nat.ne_of_lt (Nat.lt_of_lt_of_le f16.lt hr24)
  have ne_r5_r24 : r5 ≠ r24 := Nat.ne_of_lt (Nat.lt_of_lt_of_le f19.lt hr24)
  have ne_r14_r24 : r14 ≠ r24 := Nat.ne_of_lt (Nat.lt_of_lt_of_le Q14_0.lt hr24)
  have g_r24 : n0 ≤ r24 := Nat.le_trans Z21 hr24
  have sz_r24 : h0.size ≤ r24 := Nat.le_trans K22.1 hr24
  have O25 := O15.keep K24 all0
  have f26 := f16.keep K24 nin0
  have f27 := f17.keep K24 nin0
  have f28 := f18.keep K24
  have f29 := f19.keep K24
  have f30 := f20.keep K24 nin0
  have f31 := Q14_0.keep K24
  have f32 := Q14_1.keep K24 nin0
  have Z33 := Nat.le_trans Z21 K24.1
  have K34 : Keep h0 T24.heap [] := Keep.trans K22 K24 all0
  have N35 := Fr.app N23 N24q
  obtain ⟨fs, hr, hrun, hended, hW, hsame⟩ := X24.leave (hlocks := hlk) (v := some (.ref r24)) (fun h => by rw [Bd.returns] at h; cases h)
  refine ⟨_, _, pre0 _ ?_, hrun, hended, _, _, rfl, ?_, ⟨_, rfl⟩, hW, hsame.mono (by decide) (by decide)⟩
  · show Steps p.tables e below (s₁.setTop (mkF m 0 #[.val (.ref a1)] [])) _
    refine XS.aloadN X0.here hx rfl (hb hby own_d4_0) rfl rfl ?_
    show Steps p.tables e below (s₁.setTop (mkF m 1 #[.val (.ref a1)] [(.ref a1)])) _
    refine st1.trans ?_
    show Steps p.tables e below (T1.setTop (mkF m 4 #[.val (.ref a1)] [(.int (0 : Int32))])) _
    refine XS.ifYes X1.here hx rfl (pc0 := 4) (pc' := 13) rfl (hb hby own_d4_4) rfl ((if0 _ _).trans (teq (by decide : (0 : Int32) = (0 : Int32))).1) (by decide) (by decide) ?_
    show Steps p.tables e below (T1.setTop (mkF m 13 #[.val (.ref a1)] [])) _
    refine XS.aloadN X1.here hx rfl (hb hby own_d4_13) rfl rfl ?_
    show Steps p.tables e below (T1.setTop (mkF m 14 #[.val (.ref a1)] [(.ref a1)])) _
    refine st4 _ ?_
    show Steps p.tables e below (T4.setTop (mkF m 17 #[.val (.ref a1)] [(.int w_first_a1)])) _
    refine st5 _ ?_
    show Steps p.tables e below (T5.setTop (mkF m 20 #[.val (.ref a1)] [(.ref r5)])) _
    refine XS.aloadN X5.here hx rfl (hb hby own_d4_20) rfl rfl ?_
    show Steps p.tables e below (T5.setTop (mkF m 21 #[.val (.ref a1)] [(.ref a1), (.ref r5)])) _
    refine st13 _ ?_
    show Steps p.tables e below (T13.setTop (mkF m 24 #[.val (.ref a1)] [(.int w_max_a1), (.ref r5)])) _
    refine st14 _ ?_
    show Steps p.tables e below (T14.setTop (mkF m 27 #[.val (.ref a1)] [(.ref r14), (.ref r5)])) _
    refine st24 _ ?_
    show Steps p.tables e below (T24.setTop (mkF m 30 #[.val (.ref a1)] [(.ref r24)])) _
    jvm_step X24.here [X24.here.top, hx, (hb hby own_d4_30), X24.method', Bd.returns, Value.isRef, FieldType.isReference]
    first | (intro acts; rw [hr _ acts rfl rfl rfl]) | rw [hr _ _ rfl rfl rfl]
    exact Steps.refl _
  · show own_vB_Q4 Z a1 clc w_first_a1 w_max_a1 w_cache h0 n0 _ T24.heap _
    exact ⟨r24, r5, r14, rfl, N35, K34, sz_r24, f29, f30, f31, f32, Q24_0, Q24_1, Q24_2⟩
-- body 4, variant C
theorem own_vC_ef4 (m : MethodId) (x0 : Addr) : entryFrame m #[(.ref x0)] 1 = mkF m 0 #[.val (.ref x0)] [] := by first | (simp [entryFrame, mkF, argsToLocals, Value.category]; done) | rfl
def own_vC_Q4 (Z : State) (a1 : Addr) (clc : Cell) (w_first_a1 : Int32) (w_max_a1 : Int32) (w_cache : Addr) (h0 : Heap) (n0 : Nat) (v : Option Value) (h : Heap) (L : List Loc) : Prop := ∃ (r : Addr) (x1 : Addr) (x2 : Addr), v = some (.ref r) ∧ Fr n0 L ∧ Keep h0 h [] ∧ h0.size ≤ r ∧ Exa Z h x1 "java/lang/Integer" ∧ Fld Z h x1 "java/lang/Integer" "value" "I" (.int w_first_a1) ∧ Exa Z h x2 "java/lang/Integer" ∧ Fld Z h x2 "java/lang/Integer" "value" "I" (.int w_max_a1) ∧ Exa Z h r "java/util/ImmutableCollections$List12" ∧ Fld Z h r "java/util/ImmutableCollections$List12" "e0" "Ljava/lang/Object;" (.ref x1) ∧ Fld Z h r "java/util/ImmutableCollections$List12" "e1" "Ljava/lang/Object;" (.ref x2)
set_option maxRecDepth 65536 in
set_option maxHeartbeats 40000000 in
theorem own_vC_rm4 (l : Launch) (Z : State) (a0 : Array Value) (hw : ∀ d ∈ tables_1, d.before a0 Z = true) (ws : List Jvm.Cond) (a1 : Addr) (clc : Cell) (w_first_a1 : Int32) (w_max_a1 : Int32) (w_cache : Addr) (h0 : Heap) (n0 : Nat) (Z0 : n0 ≤ h0.size) (O0 : Old Z n0 h0) (hf : ¬ w_first_a1 = (0 : Int32)) (Hc : Bxs Z w_cache clc "java/lang/Integer" "I" (256 : Int32) (fun j => .int (j - 128))) (F_first_a1 : Fld Z h0 a1 "com/example/fetch_plan/fetchplan/Page" "first" "I" (.int w_first_a1)) (F_max_a1 : Fld Z h0 a1 "com/example/fetch_plan/fetchplan/Page" "max" "I" (.int w_max_a1)) (E_a1 : Exa Z h0 a1 "com/example/fetch_plan/fetchplan/Page") (S_high : Sta Z Z.heap "java/lang/Integer$IntegerCache" "high" "I" (.int (127 : Int32))) (S_cache : Sta Z Z.heap "java/lang/Integer$IntegerCache" "cache" "[Ljava/lang/Integer;" (.ref w_cache)) :
    MetFree l (⟨"com/example/fetch_plan/fetchplan/Page", "parameters", "()Ljava/util/List;"⟩ : MethodName) (head1 (Jvm.Cond.code (⟨"com/example/fetch_plan/fetchplan/Page", "parameters", "()Ljava/util/List;"⟩ : MethodName) prog_6_method_4_code 1 (some (.object "java/util/List")) :: ws) ({ frames := 6, cells := 3, slots := 4, locals := 76 } : Room)) (fun a U => a = #[(.ref a1)] ∧ Z.Warmed39 U.vm ∧ U.heap = h0) (fun _ _ _ _ _ => True) (fun _ U o U' => ∃ v L, o = .returned v ∧ own_vC_Q4 Z a1 clc w_first_a1 w_max_a1 w_cache h0 n0 v U'.heap L ∧ FrameEnd U o U' L ({ frames := 6, cells := 3, slots := 4, locals := 76 } : Room).cells ({ frames := 6, cells := 3, slots := 4, locals := 76 } : Room).slots) := by
  refine MetFree.of_bodySF (plainFor_of_name own_pn5) hisR ?_
  intro p e s m args below meth c s₁ Bd hml0 hP hK
  obtain ⟨rfl, hZ, hh⟩ := hP
  have hx := Bd.exec
  have hby := Bd.bytes
  have hml : c.maxLocals = 1 := hml0
  have hown : s.vm.findClass "com/example/fetch_plan/fetchplan/Page" = some m.cls := findClass_of_methodNamed Bd.named
  have hnm := (name_of_methodNamed Bd.named Bd.method).1
  have X0 : Stand p l e ({ frames := 6, cells := 3, slots := 4, locals := 76 } : Room) s m #[(.ref a1)] below meth c s₁ [] 0 0 := Stand.of_body Bd
  have hS0 : s.Since s.vm 0 := (State.WarmedH.refl s).since 0
  have hk0 : 0 ≤ h0.size := Nat.zero_le _
  have hlk := Bd.notSynchronized
  have e0 : s₁.heap = h0 := by rw [← hh, Bd.state]; rfl
  have N0 := Fr.nil n0
  have pre0 : ∀ t, Steps p.tables e below (s₁.setTop (mkF m 0 #[.val (.ref a1)] [])) t → Steps p.tables e below (s₁.setTop (entryFrame m #[(.ref a1)] 1)) t := fun t k => castTop (own_vC_ef4 m a1) k
  obtain ⟨cq1, kq1, q1a, q1b, q1c⟩ := isOf hZ e0 E_a1
  obtain ⟨v1, _, ⟨T1, L1, k1, n1⟩, -, X1, ⟨Lc1, hQ1, l1, y1, z1⟩, st1⟩ := X0.virtualBack hx (y := (⟨"com/example/fetch_plan/fetchplan/Page", "keepsAll", "()Z"⟩ : MethodName)) (z := (⟨"com/example/fetch_plan/fetchplan/Page", "keepsAll", "()Z"⟩ : MethodName)) hown (mvT hZ (hw _ (List.mem_of_getElem? (i := 24) rfl))) (mvT hZ (hw _ (List.mem_of_getElem? (i := 25) rfl))) (notFace_of_selects (args := #[]) (mvT hZ (hw _ (List.mem_of_getElem? (i := 27) rfl)))) (mvT hZ (hw _ (List.mem_of_getElem? (i := 27) rfl))) (mvT hZ (hw _ (List.mem_of_getElem? (i := 26) rfl))) (by decide) (backOf (W := 0) (own_rm5 l Z a0 hw [] a1 w_first_a1 w_max_a1 h0 n0 Z0 F_first_a1 F_max_a1) hZ (hw _ (List.mem_of_getElem? (i := 28) rfl)) (hw _ (List.mem_of_getElem? (i := 3) rfl)) (by decide) (by decide)) q1a q1c (g := (mkF m 1 #[.val (.ref a1)] [(.ref a1)])) rfl (by rw [hml]; rfl) (Steps.refl _) (argsL := []) (rest := []) (lenOf own_pd100 rfl) rfl (by show 2 * 0 + _ ≤ _; exact Nat.le_of_eq rfl) (hb hby own_d4_1) (fun _ _ => ⟨rfl, e0, (by decide : 0 + 0 ≤ _), (by decide : 0 + 0 ≤ _)⟩)
  dsimp only [Pt.U, Pt.locs, Pt.cells, Pt.slots] at X1 l1 y1 z1 st1 hQ1
  subst l1 y1 z1
  obtain ⟨hv1, N1q, e1⟩ := hQ1
  have N2 := Fr.app N0 N1q
  have hw3 : v1 = some (.int (0 : Int32)) := hv1.trans (by rw [own_f5, if_neg hf])
  subst hw3
  obtain ⟨T4, X4, e4, st4⟩ := getF X1 hx hZ hown (host := "") (Or.inl (hw _ (List.mem_of_getElem? (i := 15) rfl))) Via.refl e1 F_first_a1 (g := (mkF m 14 #[.val (.ref a1)] [(.ref a1)])) rfl rfl (hb hby own_d4_14)
  obtain ⟨v5, _, ⟨T5, L5, k5, n5⟩, -, X5, ⟨Lc5, hQ5, l5, y5, z5⟩, st5⟩ := Jvm.LawKit.callS X4 hx (y := (⟨"java/lang/Integer", "valueOf", "(I)Ljava/lang/Integer;"⟩ : MethodName)) hown (mvT hZ (hw _ (List.mem_of_getElem? (i := 48) rfl))) (mvT hZ (hw _ (List.mem_of_getElem? (i := 49) rfl))) (mvT hZ (hw _ (List.mem_of_getElem? (i := 50) rfl))) (mvT hZ (hw _ (List.mem_of_getElem? (i := 51) rfl))) (by decide) (backOf (W := 0) (own_rm8 l Z a0 hw [] w_first_a1 clc w_cache h0 n0 Z0 O0 Hc S_high S_cache) hZ (hw _ (List.mem_of_getElem? (i := 51) rfl)) (hw _ (List.mem_of_getElem? (i := 50) rfl)) (by decide) (by decide)) (g := (mkF m 17 #[.val (.ref a1)] [(.int w_first_a1)])) rfl (by rw [hml]; rfl) (argsL := [(.int w_first_a1)]) (rest := []) (lenOf own_pd108 rfl) rfl (by show 2 * 0 + _ ≤ _; exact Nat.le_of_eq rfl) (hb hby own_d4_17) (fun _ _ => ⟨rfl, e4, (by decide : 0 + 1 ≤ _), (by decide : 0 + 1 ≤ _)⟩)
  dsimp only [Pt.U, Pt.locs, Pt.cells, Pt.slots] at X5 l5 y5 z5 st5 hQ5
  subst l5 y5 z5
  obtain ⟨r5, rfl, N5q, K5, Q5_0, Q5_1⟩ := hQ5
  have O6 := O0.keep K5 all0
  have f7 := F_first_a1.keep K5 nin0
  have f8 := F_max_a1.keep K5 nin0
  have f9 := E_a1.keep K5
  have Z10 := Nat.le_trans Z0 K5.1
  have K11 : Keep h0 T5.heap [] := Keep.trans (Keep.refl h0 _) K5 all0
  have N12 := Fr.app N2 N5q
  obtain ⟨T13, X13, e13, st13⟩ := getF X5 hx hZ hown (host := "") (Or.inl (hw _ (List.mem_of_getElem? (i := 17) rfl))) Via.refl rfl f8 (g := (mkF m 21 #[.val (.ref a1)] [(.ref a1), (.ref r5)])) rfl rfl (hb hby own_d4_21)
  obtain ⟨v14, _, ⟨T14, L14, k14, n14⟩, -, X14, ⟨Lc14, hQ14, l14, y14, z14⟩, st14⟩ := Jvm.LawKit.callS X13 hx (y := (⟨"java/lang/Integer", "valueOf", "(I)Ljava/lang/Integer;"⟩ : MethodName)) hown (mvT hZ (hw _ (List.mem_of_getElem? (i := 48) rfl))) (mvT hZ (hw _ (List.mem_of_getElem? (i := 49) rfl))) (mvT hZ (hw _ (List.mem_of_getElem? (i := 50) rfl))) (mvT hZ (hw _ (List.mem_of_getElem? (i := 51) rfl))) (by decide) (backOf (W := 1) (own_rm8 l Z a0 hw [] w_max_a1 clc w_cache T5.heap n0 Z10 O6 Hc S_high S_cache) hZ (hw _ (List.mem_of_getElem? (i := 51) rfl)) (hw _ (List.mem_of_getElem? (i := 50) rfl)) (by decide) (by decide)) (g := (mkF m 24 #[.val (.ref a1)] [(.int w_max_a1), (.ref r5)])) rfl (by rw [hml]; rfl) (argsL := [(.int w_max_a1)]) (rest := [(.ref r5)]) (lenOf own_pd108 rfl) rfl (by show 2 * 0 + _ ≤ _; exact Nat.le_of_eq rfl) (hb hby own_d4_24) (fun _ _ => ⟨rfl, e13, (by decide : 1 + 1 ≤ _), (by decide : 1 + 1 ≤ _)⟩)
  dsimp only [Pt.U, Pt.locs, Pt.cells, Pt.slots] at X14 l14 y14 z14 st14 hQ14
  subst l14 y14 z14
  obtain ⟨r14, rfl, N14q, K14, Q14_0, Q14_1⟩ := hQ14
  have O15 := O6.keep K14 all0
  have f16 := f7.keep K14 nin0
  have f17 := f8.keep K14 nin0
  have f18 := f9.keep K14
  have f19 := Q5_0.keep K14
  have f20 := Q5_1.keep K14 nin0
  have Z21 := Nat.le_trans Z10 K14.1
  have K22 : Keep h0 T14.heap [] := Keep.trans K11 K14 all0
  have N23 := Fr.app N12 N14q
  obtain ⟨v24, _, ⟨T24, L24, k24, n24⟩, -, X24, ⟨Lc24, hQ24, l24, y24, z24⟩, st24⟩ := Jvm.LawKit.callS X14 hx (y := (⟨"java/util/List", "of", "(Ljava/lang/Object;Ljava/lang/Object;)Ljava/util/List;"⟩ : MethodName)) hown (mvT hZ (hw _ (List.mem_of_getElem? (i := 55) rfl))) (mvT hZ (hw _ (List.mem_of_getElem? (i := 56) rfl))) (mvT hZ (hw _ (List.mem_of_getElem? (i := 32) rfl))) (mvT hZ (hw _ (List.mem_of_getElem? (i := 57) rfl))) (by decide) (backOf (W := 0) (own_rm9 l Z a0 hw [] r5 r14 T14.heap n0 Z21) hZ (hw _ (List.mem_of_getElem? (i := 57) rfl)) (hw _ (List.mem_of_getElem? (i := 32) rfl)) (by decide) (by decide)) (g := (mkF m 27 #[.val (.ref a1)] [(.ref r14), (.ref r5)])) rfl (by rw [hml]; rfl) (argsL := [(.ref r5), (.ref r14)]) (rest := []) (lenOf own_pd109 rfl) rfl (by show 2 * 0 + _ ≤ _; exact Nat.le_of_eq rfl) (hb hby own_d4_27) (fun _ _ => ⟨rfl, rfl, (by decide : 2 + 1 ≤ _), (by decide : 2 + 2 ≤ _)⟩)
  dsimp only [Pt.U, Pt.locs, Pt.cells, Pt.slots] at X24 l24 y24 z24 st24 hQ24
  subst l24 y24 z24
  obtain ⟨r24, rfl, N24q, K24, hr24, Q24_0, Q24_1, Q24_2⟩ := hQ24
  have ne_a1_r24 : a1 ≠ r24 := Nat.ne_of_lt (Nat.lt_of_lt_of_le f16.lt hr24)
  have ne_r5_r24 : r5 ≠ r24 := Nat.ne_of_lt (Nat.lt_of_lt_of_le f19.lt hr24)
  have ne_r14_r24 : r14 ≠ r24 := Nat.ne_of_lt (Nat.lt_of_lt_of_le Q14_0.lt hr24)
  have g_r24 : n0 ≤ r24 := Nat.le_trans Z21 hr24
  have sz_r24 : h0.size ≤ r24 := Nat.le_trans K22.1 hr24
  have O25 := O15.keep K24 all0
  have f26 := f16.keep K24 nin0
  have f27 := f17.keep K24 nin0
  have f28 := f18.keep K24
  have f29 := f19.keep K24
  have f30 := f20.keep K24 nin0
  have f31 := Q14_0.keep K24
  have f32 := Q14_1.keep K24 nin0
  have Z33 := Nat.le_trans Z21 K24.1
  have K34 : Keep h0 T24.heap [] := Keep.trans K22 K24 all0
  have N35 := Fr.app N23 N24q
  obtain ⟨fs, hr, hrun, hended, hW, hsame⟩ := X24.leave (hlocks := hlk) (v := some (.ref r24)) (fun h => by rw [Bd.returns] at h; cases h)
  refine ⟨_, _, pre0 _ ?_, hrun, hended, _, _, rfl, ?_, ⟨_, rfl⟩, hW, hsame.mono (by decide) (by decide)⟩
  · show Steps p.tables e below (s₁.setTop (mkF m 0 #[.val (.ref a1)] [])) _
    refine XS.aloadN X0.here hx rfl (hb hby own_d4_0) rfl rfl ?_
    show Steps p.tables e below (s₁.setTop (mkF m 1 #[.val (.ref a1)] [(.ref a1)])) _
    refine st1.trans ?_
    show Steps p.tables e below (T1.setTop (mkF m 4 #[.val (.ref a1)] [(.int (0 : Int32))])) _
    refine XS.ifYes X1.here hx rfl (pc0 := 4) (pc' := 13) rfl (hb hby own_d4_4) rfl ((if0 _ _).trans (teq (by decide : (0 : Int32) = (0 : Int32))).1) (by decide) (by decide) ?_
    show Steps p.tables e below (T1.setTop (mkF m 13 #[.val (.ref a1)] [])) _
    refine XS.aloadN X1.here hx rfl (hb hby own_d4_13) rfl rfl ?_
    show Steps p.tables e below (T1.setTop (mkF m 14 #[.val (.ref a1)] [(.ref a1)])) _
    refine st4 _ ?_
    show Steps p.tables e below (T4.setTop (mkF m 17 #[.val (.ref a1)] [(.int w_first_a1)])) _
    refine st5 _ ?_
    show Steps p.tables e below (T5.setTop (mkF m 20 #[.val (.ref a1)] [(.ref r5)])) _
    refine XS.aloadN X5.here hx rfl (hb hby own_d4_20) rfl rfl ?_
    show Steps p.tables e below (T5.setTop (mkF m 21 #[.val (.ref a1)] [(.ref a1), (.ref r5)])) _
    refine st13 _ ?_
    show Steps p.tables e below (T13.setTop (mkF m 24 #[.val (.ref a1)] [(.int w_max_a1), (.ref r5)])) _
    refine st14 _ ?_
    show Steps p.tables e below (T14.setTop (mkF m 27 #[.val (.ref a1)] [(.ref r14), (.ref r5)])) _
    refine st24 _ ?_
    show Steps p.tables e below (T24.setTop (mkF m 30 #[.val (.ref a1)] [(.ref r24)])) _
    jvm_step X24.here [X24.here.top, hx, (hb hby own_d4_30), X24.method', Bd.returns, Value.isRef, FieldType.isReference]
    first | (intro acts; rw [hr _ acts rfl rfl rfl]) | rw [hr _ _ rfl rfl rfl]
    exact Steps.refl _
  · show own_vC_Q4 Z a1 clc w_first_a1 w_max_a1 w_cache h0 n0 _ T24.heap _
    exact ⟨r24, r5, r14, rfl, N35, K34, sz_r24, f29, f30, f31, f32, Q24_0, Q24_1, Q24_2⟩
-- body 15
theorem own_d15_0 : decode jdk_44_method_3_code 0 = .ok (.aload_n 0, 1) := by decide +kernel
theorem own_d15_1 : decode jdk_44_method_3_code 1 = .ok (.getfield 24, 3) := by decide +kernel
theorem own_d15_4 : decode jdk_44_method_3_code 4 = .ok (.getstatic 19, 3) := by decide +kernel
theorem own_d15_7 : decode jdk_44_method_3_code 7 = .ok (.if_acmp .eq 7, 3) := by decide +kernel
theorem own_d15_10 : decode jdk_44_method_3_code 10 = .ok (.iconst 2, 1) := by decide +kernel
theorem own_d15_11 : decode jdk_44_method_3_code 11 = .ok (.goto 4, 3) := by decide +kernel
theorem own_d15_15 : decode jdk_44_method_3_code 15 = .ok (.ireturn, 1) := by decide +kernel
theorem own_ef15 (m : MethodId) (x0 : Addr) : entryFrame m #[(.ref x0)] 1 = mkF m 0 #[.val (.ref x0)] [] := by first | (simp [entryFrame, mkF, argsToLocals, Value.category]; done) | rfl
def own_f15 : Int32 := (2 : Int32)
def own_Q15 (Z : State) (a1 : Addr) (w_e1_a1 : Addr) (w_EMPTY : Addr) (h0 : Heap) (n0 : Nat) (v : Option Value) (h : Heap) (L : List Loc) : Prop := v = some (.int (own_f15)) ∧ Fr n0 L ∧ h = h0
set_option maxRecDepth 65536 in
set_option maxHeartbeats 40000000 in
theorem own_rm15 (l : Launch) (Z : State) (a0 : Array Value) (hw : ∀ d ∈ tables_1, d.before a0 Z = true) (ws : List Jvm.Cond) (a1 : Addr) (w_e1_a1 : Addr) (w_EMPTY : Addr) (h0 : Heap) (n0 : Nat) (Z0 : n0 ≤ h0.size) (O0 : Old Z n0 h0) (hne : w_e1_a1 ≠ w_EMPTY) (F_e1_a1 : Fld Z h0 a1 "java/util/ImmutableCollections$List12" "e1" "Ljava/lang/Object;" (.ref w_e1_a1)) (S_EMPTY : Sta Z Z.heap "java/util/ImmutableCollections" "EMPTY" "Ljava/lang/Object;" (.ref w_EMPTY)) :
    MetFree l (⟨"java/util/ImmutableCollections$List12", "size", "()I"⟩ : MethodName) (head1 (Jvm.Cond.code (⟨"java/util/ImmutableCollections$List12", "size", "()I"⟩ : MethodName) jdk_44_method_3_code 1 (some .int) :: ws) ({ frames := 0, cells := 0, slots := 0, locals := 0 } : Room)) (fun a U => a = #[(.ref a1)] ∧ Z.Warmed39 U.vm ∧ U.heap = h0) (fun _ _ _ _ _ => True) (fun _ U o U' => ∃ v L, o = .returned v ∧ own_Q15 Z a1 w_e1_a1 w_EMPTY h0 n0 v U'.heap L ∧ FrameEnd U o U' L ({ frames := 0, cells := 0, slots := 0, locals := 0 } : Room).cells ({ frames := 0, cells := 0, slots := 0, locals := 0 } : Room).slots) := by
  refine MetFree.of_bodySF (plainFor_of_name own_pn52) hisR ?_
  intro p e s m args below meth c s₁ Bd hml0 hP hK
  obtain ⟨rfl, hZ, hh⟩ := hP
  have hx := Bd.exec
  have hby := Bd.bytes
  have hml : c.maxLocals = 1 := hml0
  have hown : s.vm.findClass "java/util/ImmutableCollections$List12" = some m.cls := findClass_of_methodNamed Bd.named
  have hnm := (name_of_methodNamed Bd.named Bd.method).1
  have X0 : Stand p l e ({ frames := 0, cells := 0, slots := 0, locals := 0 } : Room) s m #[(.ref a1)] below meth c s₁ [] 0 0 := Stand.of_body Bd
  have hS0 : s.Since s.vm 0 := (State.WarmedH.refl s).since 0
  have hk0 : 0 ≤ h0.size := Nat.zero_le _
  have hlk := Bd.notSynchronized
  have e0 : s₁.heap = h0 := by rw [← hh, Bd.state]; rfl
  have N0 := Fr.nil n0
  have pre0 : ∀ t, Steps p.tables e below (s₁.setTop (mkF m 0 #[.val (.ref a1)] [])) t → Steps p.tables e below (s₁.setTop (entryFrame m #[(.ref a1)] 1)) t := fun t k => castTop (own_ef15 m a1) k
  obtain ⟨T1, X1, e1, st1⟩ := getF X0 hx hZ hown (host := "") (Or.inl (hw _ (List.mem_of_getElem? (i := 90) rfl))) Via.refl e0 F_e1_a1 (g := (mkF m 1 #[.val (.ref a1)] [(.ref a1)])) rfl rfl (hb hby own_d15_1)
  obtain ⟨T2, X2, e2, st2⟩ := getS2 X1 hx hZ hown (Or.inr (hw _ (List.mem_of_getElem? (i := 98) rfl))) Via.refl e1 (S_EMPTY.ext O0.2) (g := (mkF m 4 #[.val (.ref a1)] [(.ref w_e1_a1)])) rfl (hb hby own_d15_4)
  obtain ⟨fs, hr, hrun, hended, hW, hsame⟩ := X2.leave (hlocks := hlk) (v := some (.int (2 : Int32))) (fun h => by rw [Bd.returns] at h; cases h)
  refine ⟨_, _, pre0 _ ?_, hrun, hended, _, _, rfl, ?_, ⟨_, rfl⟩, hW, hsame.mono (by decide) (by decide)⟩
  · show Steps p.tables e below (s₁.setTop (mkF m 0 #[.val (.ref a1)] [])) _
    refine XS.aloadN X0.here hx rfl (hb hby own_d15_0) rfl rfl ?_
    show Steps p.tables e below (s₁.setTop (mkF m 1 #[.val (.ref a1)] [(.ref a1)])) _
    refine st1 _ ?_
    show Steps p.tables e below (T1.setTop (mkF m 4 #[.val (.ref a1)] [(.ref w_e1_a1)])) _
    refine st2 _ ?_
    show Steps p.tables e below (T2.setTop (mkF m 7 #[.val (.ref a1)] [(.ref w_EMPTY), (.ref w_e1_a1)])) _
    refine Jvm.RoadKit.acmp (g := (mkF m 7 #[.val (.ref a1)] [(.ref w_EMPTY), (.ref w_e1_a1)])) X2 hx rfl rfl rfl (pc0 := 7) (pc' := 10) (same := false) rfl (hb hby own_d15_7) rfl (decide_eq_false fun q => hne (Value.ref.inj q)) (by decide) (by decide) ?_
    show Steps p.tables e below (T2.setTop (mkF m 10 #[.val (.ref a1)] [])) _
    refine XS.iconst X2.here hx rfl (hb hby own_d15_10) ?_
    show Steps p.tables e below (T2.setTop (mkF m 11 #[.val (.ref a1)] [(.int (2 : Int32))])) _
    refine XS.goto X2.here hx rfl (pc0 := 11) (pc' := 15) rfl (hb hby own_d15_11) (by decide) (by decide) ?_
    show Steps p.tables e below (T2.setTop (mkF m 15 #[.val (.ref a1)] [(.int (2 : Int32))])) _
    exact retI X2 hx Bd.returns (hb hby own_d15_15) hr
  · show own_Q15 Z a1 w_e1_a1 w_EMPTY h0 n0 _ T2.heap _
    rw [e2]
    exact ⟨(by rw [own_f15]), N0, rfl⟩
-- body 16, variant 0
theorem own_d16_0 : decode jdk_44_method_5_code 0 = .ok (.iload_n 1, 1) := by decide +kernel
theorem own_d16_1 : decode jdk_44_method_5_code 1 = .ok (.ifCond .ne 8, 3) := by decide +kernel
theorem own_d16_4 : decode jdk_44_method_5_code 4 = .ok (.aload_n 0, 1) := by decide +kernel
theorem own_d16_5 : decode jdk_44_method_5_code 5 = .ok (.getfield 13, 3) := by decide +kernel
theorem own_d16_8 : decode jdk_44_method_5_code 8 = .ok (.areturn, 1) := by decide +kernel
theorem own_v0_ef16 (m : MethodId) (x0 : Addr) : entryFrame m #[(.ref x0), (.int (0 : Int32))] 2 = mkF m 0 #[.val (.ref x0), .val (.int (0 : Int32))] [] := by first | (simp [entryFrame, mkF, argsToLocals, Value.category]; done) | rfl
def own_v0_f16 (w_e0_a1 : Addr) : Addr := w_e0_a1
def own_v0_Q16 (Z : State) (a1 : Addr) (w_e0_a1 : Addr) (h0 : Heap) (n0 : Nat) (v : Option Value) (h : Heap) (L : List Loc) : Prop := v = some (.ref (own_v0_f16 w_e0_a1)) ∧ Fr n0 L ∧ h = h0
set_option maxRecDepth 65536 in
set_option maxHeartbeats 40000000 in
theorem own_v0_rm16 (l : Launch) (Z : State) (a0 : Array Value) (hw : ∀ d ∈ tables_1, d.before a0 Z = true) (ws : List Jvm.Cond) (a1 : Addr) (w_e0_a1 : Addr) (h0 : Heap) (n0 : Nat) (Z0 : n0 ≤ h0.size) (F_e0_a1 : Fld Z h0 a1 "java/util/ImmutableCollections$List12" "e0" "Ljava/lang/Object;" (.ref w_e0_a1)) :
    MetFree l (⟨"java/util/ImmutableCollections$List12", "get", "(I)Ljava/lang/Object;"⟩ : MethodName) (head1 (Jvm.Cond.code (⟨"java/util/ImmutableCollections$List12", "get", "(I)Ljava/lang/Object;"⟩ : MethodName) jdk_44_method_5_code 2 (some (.object "java/lang/Object")) :: ws) ({ frames := 0, cells := 0, slots := 0, locals := 0 } : Room)) (fun a U => a = #[(.ref a1), (.int (0 : Int32))] ∧ Z.Warmed39 U.vm ∧ U.heap = h0) (fun _ _ _ _ _ => True) (fun _ U o U' => ∃ v L, o = .returned v ∧ own_v0_Q16 Z a1 w_e0_a1 h0 n0 v U'.heap L ∧ FrameEnd U o U' L ({ frames := 0, cells := 0, slots := 0, locals := 0 } : Room).cells ({ frames := 0, cells := 0, slots := 0, locals := 0 } : Room).slots) := by
  refine MetFree.of_bodySF (plainFor_of_name own_pn52) hisR ?_
  intro p e s m args below meth c s₁ Bd hml0 hP hK
  obtain ⟨rfl, hZ, hh⟩ := hP
  have hx := Bd.exec
  have hby := Bd.bytes
  have hml : c.maxLocals = 2 := hml0
  have hown : s.vm.findClass "java/util/ImmutableCollections$List12" = some m.cls := findClass_of_methodNamed Bd.named
  have hnm := (name_of_methodNamed Bd.named Bd.method).1
  have X0 : Stand p l e ({ frames := 0, cells := 0, slots := 0, locals := 0 } : Room) s m #[(.ref a1), (.int (0 : Int32))] below meth c s₁ [] 0 0 := Stand.of_body Bd
  have hS0 : s.Since s.vm 0 := (State.WarmedH.refl s).since 0
  have hk0 : 0 ≤ h0.size := Nat.zero_le _
  have hlk := Bd.notSynchronized
  have e0 : s₁.heap = h0 := by rw [← hh, Bd.state]; rfl
  have N0 := Fr.nil n0
  have pre0 : ∀ t, Steps p.tables e below (s₁.setTop (mkF m 0 #[.val (.ref a1), .val (.int (0 : Int32))] [])) t → Steps p.tables e below (s₁.setTop (entryFrame m #[(.ref a1), (.int (0 : Int32))] 2)) t := fun t k => castTop (own_v0_ef16 m a1) k
  obtain ⟨T1, X1, e1, st1⟩ := getF X0 hx hZ hown (host := "") (Or.inl (hw _ (List.mem_of_getElem? (i := 88) rfl))) Via.refl e0 F_e0_a1 (g := (mkF m 5 #[.val (.ref a1), .val (.int (0 : Int32))] [(.ref a1)])) rfl rfl (hb hby own_d16_5)
  obtain ⟨fs, hr, hrun, hended, hW, hsame⟩ := X1.leave (hlocks := hlk) (v := some (.ref w_e0_a1)) (fun h => by rw [Bd.returns] at h; cases h)
  refine ⟨_, _, pre0 _ ?_, hrun, hended, _, _, rfl, ?_, ⟨_, rfl⟩, hW, hsame.mono (by decide) (by decide)⟩
  · show Steps p.tables e below (s₁.setTop (mkF m 0 #[.val (.ref a1), .val (.int (0 : Int32))] [])) _
    refine XS.iloadN X0.here hx rfl (hb hby own_d16_0) rfl ?_
    show Steps p.tables e below (s₁.setTop (mkF m 1 #[.val (.ref a1), .val (.int (0 : Int32))] [(.int (0 : Int32))])) _
    refine XS.ifNo X0.here hx rfl (hb hby own_d16_1) rfl ((if0 _ _).trans (teq (by decide : (0 : Int32) = (0 : Int32))).2) ?_
    show Steps p.tables e below (s₁.setTop (mkF m 4 #[.val (.ref a1), .val (.int (0 : Int32))] [])) _
    refine XS.aloadN X0.here hx rfl (hb hby own_d16_4) rfl rfl ?_
    show Steps p.tables e below (s₁.setTop (mkF m 5 #[.val (.ref a1), .val (.int (0 : Int32))] [(.ref a1)])) _
    refine st1 _ ?_
    show Steps p.tables e below (T1.setTop (mkF m 8 #[.val (.ref a1), .val (.int (0 : Int32))] [(.ref w_e0_a1)])) _
    jvm_step X1.here [X1.here.top, hx, (hb hby own_d16_8), X1.method', Bd.returns, Value.isRef, FieldType.isReference]
    first | (intro acts; rw [hr _ acts rfl rfl rfl]) | rw [hr _ _ rfl rfl rfl]
    exact Steps.refl _
  · show own_v0_Q16 Z a1 w_e0_a1 h0 n0 _ T1.heap _
    rw [e1]
    exact ⟨(by rw [own_v0_f16]), N0, rfl⟩
-- body 16, variant 1
theorem own_d16_9 : decode jdk_44_method_5_code 9 = .ok (.iload_n 1, 1) := by decide +kernel
theorem own_d16_10 : decode jdk_44_method_5_code 10 = .ok (.iconst 1, 1) := by decide +kernel
theorem own_d16_11 : decode jdk_44_method_5_code 11 = .ok (.if_icmp .ne 18, 3) := by decide +kernel
theorem own_d16_14 : decode jdk_44_method_5_code 14 = .ok (.aload_n 0, 1) := by decide +kernel
theorem own_d16_15 : decode jdk_44_method_5_code 15 = .ok (.getfield 24, 3) := by decide +kernel
theorem own_d16_18 : decode jdk_44_method_5_code 18 = .ok (.getstatic 19, 3) := by decide +kernel
theorem own_d16_21 : decode jdk_44_method_5_code 21 = .ok (.if_acmp .eq 8, 3) := by decide +kernel
theorem own_d16_24 : decode jdk_44_method_5_code 24 = .ok (.aload_n 0, 1) := by decide +kernel
theorem own_d16_25 : decode jdk_44_method_5_code 25 = .ok (.getfield 24, 3) := by decide +kernel
theorem own_d16_28 : decode jdk_44_method_5_code 28 = .ok (.areturn, 1) := by decide +kernel
theorem own_v1_ef16 (m : MethodId) (x0 : Addr) : entryFrame m #[(.ref x0), (.int (1 : Int32))] 2 = mkF m 0 #[.val (.ref x0), .val (.int (1 : Int32))] [] := by first | (simp [entryFrame, mkF, argsToLocals, Value.category]; done) | rfl
def own_v1_f16 (w_e1_a1 : Addr) : Addr := w_e1_a1
def own_v1_Q16 (Z : State) (a1 : Addr) (w_e1_a1 : Addr) (w_EMPTY : Addr) (h0 : Heap) (n0 : Nat) (v : Option Value) (h : Heap) (L : List Loc) : Prop := v = some (.ref (own_v1_f16 w_e1_a1)) ∧ Fr n0 L ∧ h = h0
set_option maxRecDepth 65536 in
set_option maxHeartbeats 40000000 in
theorem own_v1_rm16 (l : Launch) (Z : State) (a0 : Array Value) (hw : ∀ d ∈ tables_1, d.before a0 Z = true) (ws : List Jvm.Cond) (a1 : Addr) (w_e1_a1 : Addr) (w_EMPTY : Addr) (h0 : Heap) (n0 : Nat) (Z0 : n0 ≤ h0.size) (O0 : Old Z n0 h0) (hne : w_e1_a1 ≠ w_EMPTY) (F_e1_a1 : Fld Z h0 a1 "java/util/ImmutableCollections$List12" "e1" "Ljava/lang/Object;" (.ref w_e1_a1)) (S_EMPTY : Sta Z Z.heap "java/util/ImmutableCollections" "EMPTY" "Ljava/lang/Object;" (.ref w_EMPTY)) :
    MetFree l (⟨"java/util/ImmutableCollections$List12", "get", "(I)Ljava/lang/Object;"⟩ : MethodName) (head1 (Jvm.Cond.code (⟨"java/util/ImmutableCollections$List12", "get", "(I)Ljava/lang/Object;"⟩ : MethodName) jdk_44_method_5_code 2 (some (.object "java/lang/Object")) :: ws) ({ frames := 0, cells := 0, slots := 0, locals := 0 } : Room)) (fun a U => a = #[(.ref a1), (.int (1 : Int32))] ∧ Z.Warmed39 U.vm ∧ U.heap = h0) (fun _ _ _ _ _ => True) (fun _ U o U' => ∃ v L, o = .returned v ∧ own_v1_Q16 Z a1 w_e1_a1 w_EMPTY h0 n0 v U'.heap L ∧ FrameEnd U o U' L ({ frames := 0, cells := 0, slots := 0, locals := 0 } : Room).cells ({ frames := 0, cells := 0, slots := 0, locals := 0 } : Room).slots) := by
  refine MetFree.of_bodySF (plainFor_of_name own_pn52) hisR ?_
  intro p e s m args below meth c s₁ Bd hml0 hP hK
  obtain ⟨rfl, hZ, hh⟩ := hP
  have hx := Bd.exec
  have hby := Bd.bytes
  have hml : c.maxLocals = 2 := hml0
  have hown : s.vm.findClass "java/util/ImmutableCollections$List12" = some m.cls := findClass_of_methodNamed Bd.named
  have hnm := (name_of_methodNamed Bd.named Bd.method).1
  have X0 : Stand p l e ({ frames := 0, cells := 0, slots := 0, locals := 0 } : Room) s m #[(.ref a1), (.int (1 : Int32))] below meth c s₁ [] 0 0 := Stand.of_body Bd
  have hS0 : s.Since s.vm 0 := (State.WarmedH.refl s).since 0
  have hk0 : 0 ≤ h0.size := Nat.zero_le _
  have hlk := Bd.notSynchronized
  have e0 : s₁.heap = h0 := by rw [← hh, Bd.state]; rfl
  have N0 := Fr.nil n0
  have pre0 : ∀ t, Steps p.tables e below (s₁.setTop (mkF m 0 #[.val (.ref a1), .val (.int (1 : Int32))] [])) t → Steps p.tables e below (s₁.setTop (entryFrame m #[(.ref a1), (.int (1 : Int32))] 2)) t := fun t k => castTop (own_v1_ef16 m a1) k
  obtain ⟨T1, X1, e1, st1⟩ := getF X0 hx hZ hown (host := "") (Or.inl (hw _ (List.mem_of_getElem? (i := 90) rfl))) Via.refl e0 F_e1_a1 (g := (mkF m 15 #[.val (.ref a1), .val (.int (1 : Int32))] [(.ref a1)])) rfl rfl (hb hby own_d16_15)
  obtain ⟨T2, X2, e2, st2⟩ := getS2 X1 hx hZ hown (Or.inr (hw _ (List.mem_of_getElem? (i := 98) rfl))) Via.refl e1 (S_EMPTY.ext O0.2) (g := (mkF m 18 #[.val (.ref a1), .val (.int (1 : Int32))] [(.ref w_e1_a1)])) rfl (hb hby own_d16_18)
  obtain ⟨T3, X3, e3, st3⟩ := getF X2 hx hZ hown (host := "") (Or.inl (hw _ (List.mem_of_getElem? (i := 90) rfl))) Via.refl e2 F_e1_a1 (g := (mkF m 25 #[.val (.ref a1), .val (.int (1 : Int32))] [(.ref a1)])) rfl rfl (hb hby own_d16_25)
  obtain ⟨fs, hr, hrun, hended, hW, hsame⟩ := X3.leave (hlocks := hlk) (v := some (.ref w_e1_a1)) (fun h => by rw [Bd.returns] at h; cases h)
  refine ⟨_, _, pre0 _ ?_, hrun, hended, _, _, rfl, ?_, ⟨_, rfl⟩, hW, hsame.mono (by decide) (by decide)⟩
  · show Steps p.tables e below (s₁.setTop (mkF m 0 #[.val (.ref a1), .val (.int (1 : Int32))] [])) _
    refine XS.iloadN X0.here hx rfl (hb hby own_d16_0) rfl ?_
    show Steps p.tables e below (s₁.setTop (mkF m 1 #[.val (.ref a1), .val (.int (1 : Int32))] [(.int (1 : Int32))])) _
    refine XS.ifYes X0.here hx rfl (pc0 := 1) (pc' := 9) rfl (hb hby own_d16_1) rfl ((if0 _ _).trans (feq (by decide : ¬ ((1 : Int32) = (0 : Int32)))).2) (by decide) (by decide) ?_
    show Steps p.tables e below (s₁.setTop (mkF m 9 #[.val (.ref a1), .val (.int (1 : Int32))] [])) _
    refine XS.iloadN X0.here hx rfl (hb hby own_d16_9) rfl ?_
    show Steps p.tables e below (s₁.setTop (mkF m 10 #[.val (.ref a1), .val (.int (1 : Int32))] [(.int (1 : Int32))])) _
    refine XS.iconst X0.here hx rfl (hb hby own_d16_10) ?_
    show Steps p.tables e below (s₁.setTop (mkF m 11 #[.val (.ref a1), .val (.int (1 : Int32))] [(.int (1 : Int32)), (.int (1 : Int32))])) _
    refine XS.icmpNo X0.here hx rfl (hb hby own_d16_11) rfl (teq (by decide : (1 : Int32) = (1 : Int32))).2 ?_
    show Steps p.tables e below (s₁.setTop (mkF m 14 #[.val (.ref a1), .val (.int (1 : Int32))] [])) _
    refine XS.aloadN X0.here hx rfl (hb hby own_d16_14) rfl rfl ?_
    show Steps p.tables e below (s₁.setTop (mkF m 15 #[.val (.ref a1), .val (.int (1 : Int32))] [(.ref a1)])) _
    refine st1 _ ?_
    show Steps p.tables e below (T1.setTop (mkF m 18 #[.val (.ref a1), .val (.int (1 : Int32))] [(.ref w_e1_a1)])) _
    refine st2 _ ?_
    show Steps p.tables e below (T2.setTop (mkF m 21 #[.val (.ref a1), .val (.int (1 : Int32))] [(.ref w_EMPTY), (.ref w_e1_a1)])) _
    refine Jvm.RoadKit.acmp (g := (mkF m 21 #[.val (.ref a1), .val (.int (1 : Int32))] [(.ref w_EMPTY), (.ref w_e1_a1)])) X2 hx rfl rfl rfl (pc0 := 21) (pc' := 24) (same := false) rfl (hb hby own_d16_21) rfl (decide_eq_false fun q => hne (Value.ref.inj q)) (by decide) (by decide) ?_
    show Steps p.tables e below (T2.setTop (mkF m 24 #[.val (.ref a1), .val (.int (1 : Int32))] [])) _
    refine XS.aloadN X2.here hx rfl (hb hby own_d16_24) rfl rfl ?_
    show Steps p.tables e below (T2.setTop (mkF m 25 #[.val (.ref a1), .val (.int (1 : Int32))] [(.ref a1)])) _
    refine st3 _ ?_
    show Steps p.tables e below (T3.setTop (mkF m 28 #[.val (.ref a1), .val (.int (1 : Int32))] [(.ref w_e1_a1)])) _
    jvm_step X3.here [X3.here.top, hx, (hb hby own_d16_28), X3.method', Bd.returns, Value.isRef, FieldType.isReference]
    first | (intro acts; rw [hr _ acts rfl rfl rfl]) | rw [hr _ _ rfl rfl rfl]
    exact Steps.refl _
  · show own_v1_Q16 Z a1 w_e1_a1 w_EMPTY h0 n0 _ T3.heap _
    rw [e3]
    exact ⟨(by rw [own_v1_f16]), N0, rfl⟩
-- body 17
theorem own_d17_0 : decode jdk_33_method_27_code 0 = .ok (.aload_n 0, 1) := by decide +kernel
theorem own_d17_1 : decode jdk_33_method_27_code 1 = .ok (.getfield 205, 3) := by decide +kernel
theorem own_d17_4 : decode jdk_33_method_27_code 4 = .ok (.ireturn, 1) := by decide +kernel
theorem own_ef17 (m : MethodId) (x0 : Addr) : entryFrame m #[(.ref x0)] 1 = mkF m 0 #[.val (.ref x0)] [] := by first | (simp [entryFrame, mkF, argsToLocals, Value.category]; done) | rfl
def own_f17 (w_value_a1 : Int32) : Int32 := w_value_a1
def own_Q17 (Z : State) (a1 : Addr) (w_value_a1 : Int32) (h0 : Heap) (n0 : Nat) (v : Option Value) (h : Heap) (L : List Loc) : Prop := v = some (.int (own_f17 w_value_a1)) ∧ Fr n0 L ∧ h = h0
set_option maxRecDepth 65536 in
set_option maxHeartbeats 40000000 in
theorem own_rm17 (l : Launch) (Z : State) (a0 : Array Value) (hw : ∀ d ∈ tables_1, d.before a0 Z = true) (ws : List Jvm.Cond) (a1 : Addr) (w_value_a1 : Int32) (h0 : Heap) (n0 : Nat) (Z0 : n0 ≤ h0.size) (F_value_a1 : Fld Z h0 a1 "java/lang/Integer" "value" "I" (.int w_value_a1)) :
    MetFree l (⟨"java/lang/Integer", "intValue", "()I"⟩ : MethodName) (head1 (Jvm.Cond.code (⟨"java/lang/Integer", "intValue", "()I"⟩ : MethodName) jdk_33_method_27_code 1 (some .int) :: ws) ({ frames := 0, cells := 0, slots := 0, locals := 0 } : Room)) (fun a U => a = #[(.ref a1)] ∧ Z.Warmed39 U.vm ∧ U.heap = h0) (fun _ _ _ _ _ => True) (fun _ U o U' => ∃ v L, o = .returned v ∧ own_Q17 Z a1 w_value_a1 h0 n0 v U'.heap L ∧ FrameEnd U o U' L ({ frames := 0, cells := 0, slots := 0, locals := 0 } : Room).cells ({ frames := 0, cells := 0, slots := 0, locals := 0 } : Room).slots) := by
  refine MetFree.of_bodySF (plainFor_of_name own_pn75) hisR ?_
  intro p e s m args below meth c s₁ Bd hml0 hP hK
  obtain ⟨rfl, hZ, hh⟩ := hP
  have hx := Bd.exec
  have hby := Bd.bytes
  have hml : c.maxLocals = 1 := hml0
  have hown : s.vm.findClass "java/lang/Integer" = some m.cls := findClass_of_methodNamed Bd.named
  have hnm := (name_of_methodNamed Bd.named Bd.method).1
  have X0 : Stand p l e ({ frames := 0, cells := 0, slots := 0, locals := 0 } : Room) s m #[(.ref a1)] below meth c s₁ [] 0 0 := Stand.of_body Bd
  have hS0 : s.Since s.vm 0 := (State.WarmedH.refl s).since 0
  have hk0 : 0 ≤ h0.size := Nat.zero_le _
  have hlk := Bd.notSynchronized
  have e0 : s₁.heap = h0 := by rw [← hh, Bd.state]; rfl
  have N0 := Fr.nil n0
  have pre0 : ∀ t, Steps p.tables e below (s₁.setTop (mkF m 0 #[.val (.ref a1)] [])) t → Steps p.tables e below (s₁.setTop (entryFrame m #[(.ref a1)] 1)) t := fun t k => castTop (own_ef17 m a1) k
  obtain ⟨T1, X1, e1, st1⟩ := getF X0 hx hZ hown (host := "") (Or.inl (hw _ (List.mem_of_getElem? (i := 114) rfl))) Via.refl e0 F_value_a1 (g := (mkF m 1 #[.val (.ref a1)] [(.ref a1)])) rfl rfl (hb hby own_d17_1)
  obtain ⟨fs, hr, hrun, hended, hW, hsame⟩ := X1.leave (hlocks := hlk) (v := some (.int w_value_a1)) (fun h => by rw [Bd.returns] at h; cases h)
  refine ⟨_, _, pre0 _ ?_, hrun, hended, _, _, rfl, ?_, ⟨_, rfl⟩, hW, hsame.mono (by decide) (by decide)⟩
  · show Steps p.tables e below (s₁.setTop (mkF m 0 #[.val (.ref a1)] [])) _
    refine XS.aloadN X0.here hx rfl (hb hby own_d17_0) rfl rfl ?_
    show Steps p.tables e below (s₁.setTop (mkF m 1 #[.val (.ref a1)] [(.ref a1)])) _
    refine st1 _ ?_
    show Steps p.tables e below (T1.setTop (mkF m 4 #[.val (.ref a1)] [(.int w_value_a1)])) _
    exact retI X1 hx Bd.returns (hb hby own_d17_4) hr
  · show own_Q17 Z a1 w_value_a1 h0 n0 _ T1.heap _
    rw [e1]
    exact ⟨(by rw [own_f17]), N0, rfl⟩
-- body 0
theorem own_ef0 (m : MethodId) (x0 : Int32) (x1 : Int32) (x2 : Int32) : entryFrame m #[(.int x0), (.int x1), (.int x2)] maxLocals = mkF m 0 #[.val (.int x0), .val (.int x1), .val (.int x2), .unset, .unset, .unset, .unset, .unset, .unset, .unset, .unset] [] := by first | (simp [entryFrame, mkF, argsToLocals, Value.category, maxLocals]; done) | rfl
def own_f0 (p1 : Int32) (p2 : Int32) (p3 : Int32) : Int32 := if (p3 &&& (3 : Int32)) = (0 : Int32) then (1 : Int32)
    else if (p3 &&& (3 : Int32)) = (1 : Int32) then (if (p3 &&& (3 : Int32)) = (2 : Int32) then (1 : Int32)
        else if p2 = (2147483647 : Int32) then (1 : Int32)
          else (1 : Int32))
      else if (p3 &&& (3 : Int32)) = (2 : Int32) then (if p1 = (0 : Int32) then (1 : Int32)
          else (1 : Int32))
        else if p1 = (0 : Int32) then (if p2 = (2147483647 : Int32) then (1 : Int32)
            else (1 : Int32))
          else if p2 = (2147483647 : Int32) then (1 : Int32)
            else (1 : Int32)
def own_Q0 (Z : State) (p1 : Int32) (p2 : Int32) (p3 : Int32) (clc : Cell) (w_EMPTY_LIST : Addr) (w_elements_w_EMPTY_LIST : Addr) (k_w_elements_w_EMPTY_LIST : ClassId) (w_cache : Addr) (w_EMPTY : Addr) (h0 : Heap) (n0 : Nat) (v : Option Value) (h : Heap) (L : List Loc) : Prop := v = some (.int (own_f0 p1 p2 p3)) ∧ Fr n0 L
set_option maxRecDepth 65536 in
set_option maxHeartbeats 40000000 in
theorem own_rm0 (l : Launch) (Z : State) (a0 : Array Value) (hw : ∀ d ∈ tables_1, d.before a0 Z = true) (ws : List Jvm.Cond) (p1 : Int32) (p2 : Int32) (p3 : Int32) (clc : Cell) (w_EMPTY_LIST : Addr) (w_elements_w_EMPTY_LIST : Addr) (k_w_elements_w_EMPTY_LIST : ClassId) (w_cache : Addr) (w_EMPTY : Addr) (h0 : Heap) (n0 : Nat) (Z0 : n0 ≤ h0.size) (O0 : Old Z n0 h0) (Hc : Bxs Z w_cache clc "java/lang/Integer" "I" (256 : Int32) (fun j => .int (j - 128))) (S_EMPTY_LIST : Sta Z Z.heap "java/util/ImmutableCollections" "EMPTY_LIST" "Ljava/util/ImmutableCollections$ListN;" (.ref w_EMPTY_LIST)) (F_elements_w_EMPTY_LIST : Fld Z Z.heap w_EMPTY_LIST "java/util/ImmutableCollections$ListN" "elements" "[Ljava/lang/Object;" (.ref w_elements_w_EMPTY_LIST)) (V_w_elements_w_EMPTY_LIST : Arv Z Z.heap w_elements_w_EMPTY_LIST k_w_elements_w_EMPTY_LIST (.object "java/lang/Object") (0 : Int32) [] .null) (E_w_EMPTY_LIST : Exa Z Z.heap w_EMPTY_LIST "java/util/ImmutableCollections$ListN") (S_high : Sta Z Z.heap "java/lang/Integer$IntegerCache" "high" "I" (.int (127 : Int32))) (S_cache : Sta Z Z.heap "java/lang/Integer$IntegerCache" "cache" "[Ljava/lang/Integer;" (.ref w_cache)) (S_EMPTY : Sta Z Z.heap "java/util/ImmutableCollections" "EMPTY" "Ljava/lang/Object;" (.ref w_EMPTY)) (E_w_EMPTY : Exa Z Z.heap w_EMPTY "java/lang/Object") :
    MetFree l x (head1 (Jvm.Cond.code x code maxLocals ret :: ws) room_1) (fun a U => a = #[(.int p1), (.int p2), (.int p3)] ∧ Z.Warmed39 U.vm ∧ U.heap = h0) (fun _ _ _ _ _ => True) (fun _ U o U' => ∃ v L, o = .returned v ∧ own_Q0 Z p1 p2 p3 clc w_EMPTY_LIST w_elements_w_EMPTY_LIST k_w_elements_w_EMPTY_LIST w_cache w_EMPTY h0 n0 v U'.heap L ∧ FrameEnd U o U' L room_1.cells room_1.slots) := by
  refine MetFree.of_bodySF (plainFor_of_name own_pn145) hisR ?_
  intro p e s m args below meth c s₁ Bd hml0 hP hK
  obtain ⟨rfl, hZ, hh⟩ := hP
  have hx := Bd.exec
  have hby := Bd.bytes
  have hml : c.maxLocals = 11 := hml0
  have hown : s.vm.findClass "com/example/fetch_plan/fetchplan/PageParametersPinLaw" = some m.cls := findClass_of_methodNamed Bd.named
  have hnm := (name_of_methodNamed Bd.named Bd.method).1
  have X0 : Stand p l e room_1 s m #[(.int p1), (.int p2), (.int p3)] below meth c s₁ [] 0 0 := Stand.of_body Bd
  have hS0 : s.Since s.vm 0 := (State.WarmedH.refl s).since 0
  have hk0 : 0 ≤ h0.size := Nat.zero_le _
  have hlk := Bd.notSynchronized
  have e0 : s₁.heap = h0 := by rw [← hh, Bd.state]; rfl
  have N0 := Fr.nil n0
  have pre0 : ∀ t, Steps p.tables e below (s₁.setTop (mkF m 0 #[.val (.int p1), .val (.int p2), .val (.int p3), .unset, .unset, .unset, .unset, .unset, .unset, .unset, .unset] [])) t → Steps p.tables e below (s₁.setTop (entryFrame m #[(.int p1), (.int p2), (.int p3)] maxLocals)) t := fun t k => castTop (own_ef0 m p1 p2 p3) k
  have k1 : ∀ t, Steps p.tables e below (s₁.setTop (mkF m 5 #[.val (.int p1), .val (.int p2), .val (.int p3), .val (.int (p3 &&& (3 : Int32))), .unset, .unset, .unset, .unset, .unset, .unset, .unset] [(.int (p3 &&& (3 : Int32)))])) t → Steps p.tables e below (s₁.setTop (entryFrame m #[(.int p1), (.int p2), (.int p3)] maxLocals)) t := by
    intro t kt
    refine pre0 t ?_
    show Steps p.tables e below (s₁.setTop (mkF m 0 #[.val (.int p1), .val (.int p2), .val (.int p3), .unset, .unset, .unset, .unset, .unset, .unset, .unset, .unset] [])) _
    refine XS.iloadN X0.here hx rfl (hb hby at_0) rfl ?_
    show Steps p.tables e below (s₁.setTop (mkF m 1 #[.val (.int p1), .val (.int p2), .val (.int p3), .unset, .unset, .unset, .unset, .unset, .unset, .unset, .unset] [(.int p3)])) _
    refine XS.iconst X0.here hx rfl (hb hby at_1) ?_
    show Steps p.tables e below (s₁.setTop (mkF m 2 #[.val (.int p1), .val (.int p2), .val (.int p3), .unset, .unset, .unset, .unset, .unset, .unset, .unset, .unset] [(.int (3 : Int32)), (.int p3)])) _
    refine XS.iand X0.here hx rfl (hb hby at_2) rfl ?_
    show Steps p.tables e below (s₁.setTop (mkF m 3 #[.val (.int p1), .val (.int p2), .val (.int p3), .unset, .unset, .unset, .unset, .unset, .unset, .unset, .unset] [(.int (p3 &&& (3 : Int32)))])) _
    refine XS.istoreN X0.here hx rfl (hb hby at_3) rfl (l' := #[.val (.int p1), .val (.int p2), .val (.int p3), .val (.int (p3 &&& (3 : Int32))), .unset, .unset, .unset, .unset, .unset, .unset, .unset]) rfl ?_
    show Steps p.tables e below (s₁.setTop (mkF m 4 #[.val (.int p1), .val (.int p2), .val (.int p3), .val (.int (p3 &&& (3 : Int32))), .unset, .unset, .unset, .unset, .unset, .unset, .unset] [])) _
    refine XS.iloadN X0.here hx rfl (hb hby at_4) rfl ?_
    exact kt
  by_cases hc1 : (p3 &&& (3 : Int32)) = (0 : Int32)
  ·
    obtain ⟨T2, h2, X2, e2, E2, A2, D2, -, st2⟩ := newO X0 hx hZ hown (hw _ (List.mem_of_getElem? (i := 1) rfl)) (hw _ (List.mem_of_getElem? (i := 2) rfl)) (hw _ (List.mem_of_getElem? (i := 3) rfl)) e0 (g := (mkF m 37 #[.val (.int p1), .val (.int p2), .val (.int p3), .val (.int (p3 &&& (3 : Int32))), .val (.int (0 : Int32)), .val (.int (2147483647 : Int32)), .unset, .unset, .unset, .unset, .unset] [])) rfl (hb hby at_37) (by decide) (by decide)
    obtain ⟨b2, g2⟩ : ∃ z, z = h0.size := ⟨_, rfl⟩
    rw [← g2] at A2 D2 st2
    have ne_w_EMPTY_LIST_b2 : w_EMPTY_LIST ≠ b2 := Nat.ne_of_lt (Nat.lt_of_lt_of_le (F_elements_w_EMPTY_LIST.ext O0.2).lt (Nat.le_of_eq g2.symm))
    have ne_w_elements_w_EMPTY_LIST_b2 : w_elements_w_EMPTY_LIST ≠ b2 := Nat.ne_of_lt (Nat.lt_of_lt_of_le (V_w_elements_w_EMPTY_LIST.ext O0.2).lt (Nat.le_of_eq g2.symm))
    have ne_w_EMPTY_b2 : w_EMPTY ≠ b2 := Nat.ne_of_lt (Nat.lt_of_lt_of_le (E_w_EMPTY.ext O0.2).lt (Nat.le_of_eq g2.symm))
    have g_b2 : n0 ≤ b2 := Nat.le_trans Z0 (Nat.le_of_eq g2.symm)
    have O3 := O0.ext E2
    have Z4 := Nat.le_trans Z0 E2.1
    have F_first_b2 : Fld Z h2 b2 "com/example/fetch_plan/fetchplan/Page" "first" "I" (.int (0 : Int32)) := D2 (Or.inr (hw _ (List.mem_of_getElem? (i := 16) rfl))) (ty := .int) (by decide)
    have F_max_b2 : Fld Z h2 b2 "com/example/fetch_plan/fetchplan/Page" "max" "I" (.int (0 : Int32)) := D2 (Or.inr (hw _ (List.mem_of_getElem? (i := 18) rfl))) (ty := .int) (by decide)
    obtain ⟨v5, _, ⟨T5, L5, k5, n5⟩, -, X5, ⟨Lc5, hQ5, l5, y5, z5⟩, st5⟩ := X2.specialBack hx (y := (⟨"com/example/fetch_plan/fetchplan/Page", "<init>", "(II)V"⟩ : MethodName)) rfl hown (mvT hZ (hw _ (List.mem_of_getElem? (i := 4) rfl))) (mvT hZ (hw _ (List.mem_of_getElem? (i := 5) rfl))) (mvT hZ (hw _ (List.mem_of_getElem? (i := 6) rfl))) (by decide) (backOf (W := 1) (own_rm1 l Z a0 hw [] b2 (0 : Int32) (2147483647 : Int32) (0 : Int32) (0 : Int32) h2 n0 Z4 A2 F_first_b2 g_b2 F_max_b2) hZ (hw _ (List.mem_of_getElem? (i := 6) rfl)) (hw _ (List.mem_of_getElem? (i := 3) rfl)) (by decide) (by decide)) (g := (mkF m 45 #[.val (.int p1), .val (.int p2), .val (.int p3), .val (.int (p3 &&& (3 : Int32))), .val (.int (0 : Int32)), .val (.int (2147483647 : Int32)), .unset, .unset, .unset, .unset, .unset] [(.int (2147483647 : Int32)), (.int (0 : Int32)), (.ref b2), (.ref b2)])) rfl (by rw [hml]; rfl) (Steps.refl _) (a := b2) (argsL := [(.int (0 : Int32)), (.int (2147483647 : Int32))]) (rest := [(.ref b2)]) (lenOf own_pd142 rfl) rfl (by show 2 * 0 + _ ≤ _; exact Nat.le_of_eq rfl) (hb hby at_45) (fun _ _ => ⟨rfl, e2, (by decide : 1 + 0 ≤ _), (by decide : 2 + 0 ≤ _)⟩)
    dsimp only [Pt.U, Pt.locs, Pt.cells, Pt.slots] at X5 l5 y5 z5 st5 hQ5
    subst l5 y5 z5
    obtain ⟨rfl, N5q, K5, Q5_0, Q5_1, Q5_2⟩ := hQ5
    have O6 := O3.keep K5 (allS g_b2 all0)
    have f7 := A2.keep K5
    have Z10 := Nat.le_trans Z4 K5.1
    have N11 := Fr.app N0 N5q
    obtain ⟨cq12, kq12, q12a, q12b, q12c⟩ := isOf hZ rfl Q5_0
    obtain ⟨v12, _, ⟨T12, L12, k12, n12⟩, -, X12, ⟨Lc12, hQ12, l12, y12, z12⟩, st12⟩ := X5.virtualBack hx (y := (⟨"com/example/fetch_plan/fetchplan/Page", "parameters", "()Ljava/util/List;"⟩ : MethodName)) (z := (⟨"com/example/fetch_plan/fetchplan/Page", "parameters", "()Ljava/util/List;"⟩ : MethodName)) hown (mvT hZ (hw _ (List.mem_of_getElem? (i := 19) rfl))) (mvT hZ (hw _ (List.mem_of_getElem? (i := 20) rfl))) (notFace_of_selects (args := #[]) (mvT hZ (hw _ (List.mem_of_getElem? (i := 22) rfl)))) (mvT hZ (hw _ (List.mem_of_getElem? (i := 22) rfl))) (mvT hZ (hw _ (List.mem_of_getElem? (i := 21) rfl))) (by decide) (backOf (W := 0) (own_vA_rm4 l Z a0 hw [] b2 (0 : Int32) (2147483647 : Int32) w_EMPTY_LIST T5.heap n0 Z10 O6 (by decide : (0 : Int32) = (0 : Int32)) (by decide : (2147483647 : Int32) = (2147483647 : Int32)) Q5_1 Q5_2 Q5_0 S_EMPTY_LIST) hZ (hw _ (List.mem_of_getElem? (i := 23) rfl)) (hw _ (List.mem_of_getElem? (i := 3) rfl)) (by decide) (by decide)) q12a q12c (g := (mkF m 52 #[.val (.int p1), .val (.int p2), .val (.int p3), .val (.int (p3 &&& (3 : Int32))), .val (.int (0 : Int32)), .val (.int (2147483647 : Int32)), .val (.ref b2), .unset, .unset, .unset, .unset] [(.ref b2)])) rfl (by rw [hml]; rfl) (Steps.refl _) (argsL := []) (rest := []) (lenOf own_pd101 rfl) rfl (by show 2 * 0 + _ ≤ _; exact Nat.le_of_eq rfl) (hb hby at_52) (fun _ _ => ⟨rfl, rfl, (by decide : 1 + 0 ≤ _), (by decide : 2 + 0 ≤ _)⟩)
    dsimp only [Pt.U, Pt.locs, Pt.cells, Pt.slots] at X12 l12 y12 z12 st12 hQ12
    subst l12 y12 z12
    obtain ⟨hv12, N12q, e12⟩ := hQ12
    have N13 := Fr.app N11 N12q
    rw [show (own_vA_f4 w_EMPTY_LIST) = w_EMPTY_LIST from by first | rfl | decide | simp [own_vA_f4]] at hv12
    subst hv12
    obtain ⟨cq14, kq14, q14a, q14b, q14c⟩ := isOf hZ e12 (E_w_EMPTY_LIST.ext O6.2)
    obtain ⟨v14, _, ⟨T14, L14, k14, n14⟩, -, X14, ⟨Lc14, hQ14, l14, y14, z14⟩, st14⟩ := X12.interfaceBack hx (xi := (⟨"java/util/List", "size", "()I"⟩ : MethodName)) (y := (⟨"java/util/ImmutableCollections$ListN", "size", "()I"⟩ : MethodName)) hown (mvT hZ (hw _ (List.mem_of_getElem? (i := 36) rfl))) (mvT hZ (hw _ (List.mem_of_getElem? (i := 37) rfl))) (mvT hZ (hw _ (List.mem_of_getElem? (i := 38) rfl))) (mvT hZ (hw _ (List.mem_of_getElem? (i := 39) rfl))) (mvT hZ (hw _ (List.mem_of_getElem? (i := 40) rfl))) (mvT hZ (hw _ (List.mem_of_getElem? (i := 41) rfl))) (mvT hZ (hw _ (List.mem_of_getElem? (i := 42) rfl))) (mvT hZ (hw _ (List.mem_of_getElem? (i := 43) rfl))) (by decide) (backOf (W := 0) (own_rm7 l Z a0 hw [] w_EMPTY_LIST k_w_elements_w_EMPTY_LIST w_elements_w_EMPTY_LIST T5.heap n0 Z10 (V_w_elements_w_EMPTY_LIST.ext O6.2) (F_elements_w_EMPTY_LIST.ext O6.2)) hZ (hw _ (List.mem_of_getElem? (i := 45) rfl)) (hw _ (List.mem_of_getElem? (i := 44) rfl)) (by decide) (by decide)) q14a q14b q14c (g := (mkF m 83 #[.val (.int p1), .val (.int p2), .val (.int p3), .val (.int (p3 &&& (3 : Int32))), .val (.int (0 : Int32)), .val (.int (2147483647 : Int32)), .val (.ref b2), .val (.ref w_EMPTY_LIST), .val (.int (1 : Int32)), .unset, .unset] [(.ref w_EMPTY_LIST)])) rfl (by rw [hml]; rfl) (Steps.refl _) (argsL := []) (rest := []) (lenOf own_pd143 rfl) rfl (by show 2 * 0 + _ ≤ _; exact Nat.le_of_eq rfl) (hb hby at_83) (fun _ _ => ⟨rfl, e12, (by decide : 1 + 0 ≤ _), (by decide : 2 + 0 ≤ _)⟩)
    dsimp only [Pt.U, Pt.locs, Pt.cells, Pt.slots] at X14 l14 y14 z14 st14 hQ14
    subst l14 y14 z14
    obtain ⟨hv14, N14q, e14⟩ := hQ14
    have N15 := Fr.app N13 N14q
    rw [show (own_f7) = (0 : Int32) from by first | rfl | decide | simp [own_f7]] at hv14
    subst hv14
    obtain ⟨fs, hr, hrun, hended, hW, hsame⟩ := X14.leave (hlocks := hlk) (v := some (.int (1 : Int32))) (fun h => by rw [Bd.returns] at h; cases h)
    refine ⟨_, _, k1 _ ?_, hrun, hended, _, _, rfl, ?_, ⟨_, rfl⟩, hW, hsame.mono (by decide) (by decide)⟩
    · show Steps p.tables e below (s₁.setTop (mkF m 5 #[.val (.int p1), .val (.int p2), .val (.int p3), .val (.int (p3 &&& (3 : Int32))), .unset, .unset, .unset, .unset, .unset, .unset, .unset] [(.int (p3 &&& (3 : Int32)))])) _
      refine XS.ifYes X0.here hx rfl (pc0 := 5) (pc' := 13) rfl (hb hby at_5) rfl ((if0 _ _).trans (teq hc1).1) (by decide) (by decide) ?_
      show Steps p.tables e below (s₁.setTop (mkF m 13 #[.val (.int p1), .val (.int p2), .val (.int p3), .val (.int (p3 &&& (3 : Int32))), .unset, .unset, .unset, .unset, .unset, .unset, .unset] [])) _
      refine XS.iconst X0.here hx rfl (hb hby at_13) ?_
      show Steps p.tables e below (s₁.setTop (mkF m 14 #[.val (.int p1), .val (.int p2), .val (.int p3), .val (.int (p3 &&& (3 : Int32))), .unset, .unset, .unset, .unset, .unset, .unset, .unset] [(.int (0 : Int32))])) _
      refine XS.goto X0.here hx rfl (pc0 := 14) (pc' := 18) rfl (hb hby at_14) (by decide) (by decide) ?_
      show Steps p.tables e below (s₁.setTop (mkF m 18 #[.val (.int p1), .val (.int p2), .val (.int p3), .val (.int (p3 &&& (3 : Int32))), .unset, .unset, .unset, .unset, .unset, .unset, .unset] [(.int (0 : Int32))])) _
      refine XS.istore X0.here hx rfl (hb hby at_18) rfl (l' := #[.val (.int p1), .val (.int p2), .val (.int p3), .val (.int (p3 &&& (3 : Int32))), .val (.int (0 : Int32)), .unset, .unset, .unset, .unset, .unset, .unset]) rfl ?_
      show Steps p.tables e below (s₁.setTop (mkF m 20 #[.val (.int p1), .val (.int p2), .val (.int p3), .val (.int (p3 &&& (3 : Int32))), .val (.int (0 : Int32)), .unset, .unset, .unset, .unset, .unset, .unset] [])) _
      refine XS.iloadN X0.here hx rfl (hb hby at_20) rfl ?_
      show Steps p.tables e below (s₁.setTop (mkF m 21 #[.val (.int p1), .val (.int p2), .val (.int p3), .val (.int (p3 &&& (3 : Int32))), .val (.int (0 : Int32)), .unset, .unset, .unset, .unset, .unset, .unset] [(.int (p3 &&& (3 : Int32)))])) _
      refine XS.ifYes X0.here hx rfl (pc0 := 21) (pc' := 29) rfl (hb hby at_21) rfl ((if0 _ _).trans (teq hc1).1) (by decide) (by decide) ?_
      show Steps p.tables e below (s₁.setTop (mkF m 29 #[.val (.int p1), .val (.int p2), .val (.int p3), .val (.int (p3 &&& (3 : Int32))), .val (.int (0 : Int32)), .unset, .unset, .unset, .unset, .unset, .unset] [])) _
      refine X0.ldcInt hx hown (mvT hZ (hw _ (List.mem_of_getElem? (i := 0) rfl))) (g := (mkF m 29 #[.val (.int p1), .val (.int p2), .val (.int p3), .val (.int (p3 &&& (3 : Int32))), .val (.int (0 : Int32)), .unset, .unset, .unset, .unset, .unset, .unset] [])) rfl (hb hby at_29) _ ?_
      show Steps p.tables e below (s₁.setTop (mkF m 31 #[.val (.int p1), .val (.int p2), .val (.int p3), .val (.int (p3 &&& (3 : Int32))), .val (.int (0 : Int32)), .unset, .unset, .unset, .unset, .unset, .unset] [(.int (2147483647 : Int32))])) _
      refine XS.goto X0.here hx rfl (pc0 := 31) (pc' := 35) rfl (hb hby at_31) (by decide) (by decide) ?_
      show Steps p.tables e below (s₁.setTop (mkF m 35 #[.val (.int p1), .val (.int p2), .val (.int p3), .val (.int (p3 &&& (3 : Int32))), .val (.int (0 : Int32)), .unset, .unset, .unset, .unset, .unset, .unset] [(.int (2147483647 : Int32))])) _
      refine XS.istore X0.here hx rfl (hb hby at_35) rfl (l' := #[.val (.int p1), .val (.int p2), .val (.int p3), .val (.int (p3 &&& (3 : Int32))), .val (.int (0 : Int32)), .val (.int (2147483647 : Int32)), .unset, .unset, .unset, .unset, .unset]) rfl ?_
      show Steps p.tables e below (s₁.setTop (mkF m 37 #[.val (.int p1), .val (.int p2), .val (.int p3), .val (.int (p3 &&& (3 : Int32))), .val (.int (0 : Int32)), .val (.int (2147483647 : Int32)), .unset, .unset, .unset, .unset, .unset] [])) _
      refine st2 _ ?_
      show Steps p.tables e below (T2.setTop (mkF m 40 #[.val (.int p1), .val (.int p2), .val (.int p3), .val (.int (p3 &&& (3 : Int32))), .val (.int (0 : Int32)), .val (.int (2147483647 : Int32)), .unset, .unset, .unset, .unset, .unset] [(.ref b2)])) _
      refine XS.dup X2.here hx rfl (hb hby at_40) rfl rfl ?_
      show Steps p.tables e below (T2.setTop (mkF m 41 #[.val (.int p1), .val (.int p2), .val (.int p3), .val (.int (p3 &&& (3 : Int32))), .val (.int (0 : Int32)), .val (.int (2147483647 : Int32)), .unset, .unset, .unset, .unset, .unset] [(.ref b2), (.ref b2)])) _
      refine XS.iload X2.here hx rfl (hb hby at_41) rfl ?_
      show Steps p.tables e below (T2.setTop (mkF m 43 #[.val (.int p1), .val (.int p2), .val (.int p3), .val (.int (p3 &&& (3 : Int32))), .val (.int (0 : Int32)), .val (.int (2147483647 : Int32)), .unset, .unset, .unset, .unset, .unset] [(.int (0 : Int32)), (.ref b2), (.ref b2)])) _
      refine XS.iload X2.here hx rfl (hb hby at_43) rfl ?_
      show Steps p.tables e below (T2.setTop (mkF m 45 #[.val (.int p1), .val (.int p2), .val (.int p3), .val (.int (p3 &&& (3 : Int32))), .val (.int (0 : Int32)), .val (.int (2147483647 : Int32)), .unset, .unset, .unset, .unset, .unset] [(.int (2147483647 : Int32)), (.int (0 : Int32)), (.ref b2), (.ref b2)])) _
      refine st5.trans ?_
      show Steps p.tables e below (T5.setTop (mkF m 48 #[.val (.int p1), .val (.int p2), .val (.int p3), .val (.int (p3 &&& (3 : Int32))), .val (.int (0 : Int32)), .val (.int (2147483647 : Int32)), .unset, .unset, .unset, .unset, .unset] [(.ref b2)])) _
      refine XS.astore X5.here hx rfl (hb hby at_48) rfl rfl (l' := #[.val (.int p1), .val (.int p2), .val (.int p3), .val (.int (p3 &&& (3 : Int32))), .val (.int (0 : Int32)), .val (.int (2147483647 : Int32)), .val (.ref b2), .unset, .unset, .unset, .unset]) rfl ?_
      show Steps p.tables e below (T5.setTop (mkF m 50 #[.val (.int p1), .val (.int p2), .val (.int p3), .val (.int (p3 &&& (3 : Int32))), .val (.int (0 : Int32)), .val (.int (2147483647 : Int32)), .val (.ref b2), .unset, .unset, .unset, .unset] [])) _
      refine XS.aload X5.here hx rfl (hb hby at_50) rfl rfl ?_
      show Steps p.tables e below (T5.setTop (mkF m 52 #[.val (.int p1), .val (.int p2), .val (.int p3), .val (.int (p3 &&& (3 : Int32))), .val (.int (0 : Int32)), .val (.int (2147483647 : Int32)), .val (.ref b2), .unset, .unset, .unset, .unset] [(.ref b2)])) _
      refine st12.trans ?_
      show Steps p.tables e below (T12.setTop (mkF m 55 #[.val (.int p1), .val (.int p2), .val (.int p3), .val (.int (p3 &&& (3 : Int32))), .val (.int (0 : Int32)), .val (.int (2147483647 : Int32)), .val (.ref b2), .unset, .unset, .unset, .unset] [(.ref w_EMPTY_LIST)])) _
      refine XS.astore X12.here hx rfl (hb hby at_55) rfl rfl (l' := #[.val (.int p1), .val (.int p2), .val (.int p3), .val (.int (p3 &&& (3 : Int32))), .val (.int (0 : Int32)), .val (.int (2147483647 : Int32)), .val (.ref b2), .val (.ref w_EMPTY_LIST), .unset, .unset, .unset]) rfl ?_
      show Steps p.tables e below (T12.setTop (mkF m 57 #[.val (.int p1), .val (.int p2), .val (.int p3), .val (.int (p3 &&& (3 : Int32))), .val (.int (0 : Int32)), .val (.int (2147483647 : Int32)), .val (.ref b2), .val (.ref w_EMPTY_LIST), .unset, .unset, .unset] [])) _
      refine XS.iload X12.here hx rfl (hb hby at_57) rfl ?_
      show Steps p.tables e below (T12.setTop (mkF m 59 #[.val (.int p1), .val (.int p2), .val (.int p3), .val (.int (p3 &&& (3 : Int32))), .val (.int (0 : Int32)), .val (.int (2147483647 : Int32)), .val (.ref b2), .val (.ref w_EMPTY_LIST), .unset, .unset, .unset] [(.int (0 : Int32))])) _
      refine XS.ifNo X12.here hx rfl (hb hby at_59) rfl ((if0 _ _).trans (teq (by decide : (0 : Int32) = (0 : Int32))).2) ?_
      show Steps p.tables e below (T12.setTop (mkF m 62 #[.val (.int p1), .val (.int p2), .val (.int p3), .val (.int (p3 &&& (3 : Int32))), .val (.int (0 : Int32)), .val (.int (2147483647 : Int32)), .val (.ref b2), .val (.ref w_EMPTY_LIST), .unset, .unset, .unset] [])) _
      refine XS.iload X12.here hx rfl (hb hby at_62) rfl ?_
      show Steps p.tables e below (T12.setTop (mkF m 64 #[.val (.int p1), .val (.int p2), .val (.int p3), .val (.int (p3 &&& (3 : Int32))), .val (.int (0 : Int32)), .val (.int (2147483647 : Int32)), .val (.ref b2), .val (.ref w_EMPTY_LIST), .unset, .unset, .unset] [(.int (2147483647 : Int32))])) _
      refine X12.ldcInt hx hown (mvT hZ (hw _ (List.mem_of_getElem? (i := 0) rfl))) (g := (mkF m 64 #[.val (.int p1), .val (.int p2), .val (.int p3), .val (.int (p3 &&& (3 : Int32))), .val (.int (0 : Int32)), .val (.int (2147483647 : Int32)), .val (.ref b2), .val (.ref w_EMPTY_LIST), .unset, .unset, .unset] [(.int (2147483647 : Int32))])) rfl (hb hby at_64) _ ?_
      show Steps p.tables e below (T12.setTop (mkF m 66 #[.val (.int p1), .val (.int p2), .val (.int p3), .val (.int (p3 &&& (3 : Int32))), .val (.int (0 : Int32)), .val (.int (2147483647 : Int32)), .val (.ref b2), .val (.ref w_EMPTY_LIST), .unset, .unset, .unset] [(.int (2147483647 : Int32)), (.int (2147483647 : Int32))])) _
      refine XS.icmpNo X12.here hx rfl (hb hby at_66) rfl (teq (by decide : (2147483647 : Int32) = (2147483647 : Int32))).2 ?_
      show Steps p.tables e below (T12.setTop (mkF m 69 #[.val (.int p1), .val (.int p2), .val (.int p3), .val (.int (p3 &&& (3 : Int32))), .val (.int (0 : Int32)), .val (.int (2147483647 : Int32)), .val (.ref b2), .val (.ref w_EMPTY_LIST), .unset, .unset, .unset] [])) _
      refine XS.iconst X12.here hx rfl (hb hby at_69) ?_
      show Steps p.tables e below (T12.setTop (mkF m 70 #[.val (.int p1), .val (.int p2), .val (.int p3), .val (.int (p3 &&& (3 : Int32))), .val (.int (0 : Int32)), .val (.int (2147483647 : Int32)), .val (.ref b2), .val (.ref w_EMPTY_LIST), .unset, .unset, .unset] [(.int (1 : Int32))])) _
      refine XS.goto X12.here hx rfl (pc0 := 70) (pc' := 74) rfl (hb hby at_70) (by decide) (by decide) ?_
      show Steps p.tables e below (T12.setTop (mkF m 74 #[.val (.int p1), .val (.int p2), .val (.int p3), .val (.int (p3 &&& (3 : Int32))), .val (.int (0 : Int32)), .val (.int (2147483647 : Int32)), .val (.ref b2), .val (.ref w_EMPTY_LIST), .unset, .unset, .unset] [(.int (1 : Int32))])) _
      refine XS.istore X12.here hx rfl (hb hby at_74) rfl (l' := #[.val (.int p1), .val (.int p2), .val (.int p3), .val (.int (p3 &&& (3 : Int32))), .val (.int (0 : Int32)), .val (.int (2147483647 : Int32)), .val (.ref b2), .val (.ref w_EMPTY_LIST), .val (.int (1 : Int32)), .unset, .unset]) rfl ?_
      show Steps p.tables e below (T12.setTop (mkF m 76 #[.val (.int p1), .val (.int p2), .val (.int p3), .val (.int (p3 &&& (3 : Int32))), .val (.int (0 : Int32)), .val (.int (2147483647 : Int32)), .val (.ref b2), .val (.ref w_EMPTY_LIST), .val (.int (1 : Int32)), .unset, .unset] [])) _
      refine XS.iload X12.here hx rfl (hb hby at_76) rfl ?_
      show Steps p.tables e below (T12.setTop (mkF m 78 #[.val (.int p1), .val (.int p2), .val (.int p3), .val (.int (p3 &&& (3 : Int32))), .val (.int (0 : Int32)), .val (.int (2147483647 : Int32)), .val (.ref b2), .val (.ref w_EMPTY_LIST), .val (.int (1 : Int32)), .unset, .unset] [(.int (1 : Int32))])) _
      refine XS.ifNo X12.here hx rfl (hb hby at_78) rfl ((if0 _ _).trans (feq (by decide : ¬ ((1 : Int32) = (0 : Int32)))).1) ?_
      show Steps p.tables e below (T12.setTop (mkF m 81 #[.val (.int p1), .val (.int p2), .val (.int p3), .val (.int (p3 &&& (3 : Int32))), .val (.int (0 : Int32)), .val (.int (2147483647 : Int32)), .val (.ref b2), .val (.ref w_EMPTY_LIST), .val (.int (1 : Int32)), .unset, .unset] [])) _
      refine XS.aload X12.here hx rfl (hb hby at_81) rfl rfl ?_
      show Steps p.tables e below (T12.setTop (mkF m 83 #[.val (.int p1), .val (.int p2), .val (.int p3), .val (.int (p3 &&& (3 : Int32))), .val (.int (0 : Int32)), .val (.int (2147483647 : Int32)), .val (.ref b2), .val (.ref w_EMPTY_LIST), .val (.int (1 : Int32)), .unset, .unset] [(.ref w_EMPTY_LIST)])) _
      refine st14.trans ?_
      show Steps p.tables e below (T14.setTop (mkF m 88 #[.val (.int p1), .val (.int p2), .val (.int p3), .val (.int (p3 &&& (3 : Int32))), .val (.int (0 : Int32)), .val (.int (2147483647 : Int32)), .val (.ref b2), .val (.ref w_EMPTY_LIST), .val (.int (1 : Int32)), .unset, .unset] [(.int (0 : Int32))])) _
      refine XS.ifNo X14.here hx rfl (hb hby at_88) rfl ((if0 _ _).trans (teq (by decide : (0 : Int32) = (0 : Int32))).2) ?_
      show Steps p.tables e below (T14.setTop (mkF m 91 #[.val (.int p1), .val (.int p2), .val (.int p3), .val (.int (p3 &&& (3 : Int32))), .val (.int (0 : Int32)), .val (.int (2147483647 : Int32)), .val (.ref b2), .val (.ref w_EMPTY_LIST), .val (.int (1 : Int32)), .unset, .unset] [])) _
      refine XS.iconst X14.here hx rfl (hb hby at_91) ?_
      show Steps p.tables e below (T14.setTop (mkF m 92 #[.val (.int p1), .val (.int p2), .val (.int p3), .val (.int (p3 &&& (3 : Int32))), .val (.int (0 : Int32)), .val (.int (2147483647 : Int32)), .val (.ref b2), .val (.ref w_EMPTY_LIST), .val (.int (1 : Int32)), .unset, .unset] [(.int (1 : Int32))])) _
      refine XS.goto X14.here hx rfl (pc0 := 92) (pc' := 96) rfl (hb hby at_92) (by decide) (by decide) ?_
      show Steps p.tables e below (T14.setTop (mkF m 96 #[.val (.int p1), .val (.int p2), .val (.int p3), .val (.int (p3 &&& (3 : Int32))), .val (.int (0 : Int32)), .val (.int (2147483647 : Int32)), .val (.ref b2), .val (.ref w_EMPTY_LIST), .val (.int (1 : Int32)), .unset, .unset] [(.int (1 : Int32))])) _
      exact retN X14 hx (t := .boolean) Bd.returns (by simp) (hb hby at_96) hr
    · show own_Q0 Z p1 p2 p3 clc w_EMPTY_LIST w_elements_w_EMPTY_LIST k_w_elements_w_EMPTY_LIST w_cache w_EMPTY h0 n0 _ T14.heap _
      rw [e14]
      exact ⟨(by rw [own_f0, if_pos hc1]), N15⟩
  ·
    have k16 : ∀ t, Steps p.tables e below (s₁.setTop (mkF m 10 #[.val (.int p1), .val (.int p2), .val (.int p3), .val (.int (p3 &&& (3 : Int32))), .unset, .unset, .unset, .unset, .unset, .unset, .unset] [(.int (1 : Int32)), (.int (p3 &&& (3 : Int32)))])) t → Steps p.tables e below (s₁.setTop (entryFrame m #[(.int p1), (.int p2), (.int p3)] maxLocals)) t := by
      intro t kt
      refine k1 t ?_
      show Steps p.tables e below (s₁.setTop (mkF m 5 #[.val (.int p1), .val (.int p2), .val (.int p3), .val (.int (p3 &&& (3 : Int32))), .unset, .unset, .unset, .unset, .unset, .unset, .unset] [(.int (p3 &&& (3 : Int32)))])) _
      refine XS.ifNo X0.here hx rfl (hb hby at_5) rfl ((if0 _ _).trans (feq hc1).1) ?_
      show Steps p.tables e below (s₁.setTop (mkF m 8 #[.val (.int p1), .val (.int p2), .val (.int p3), .val (.int (p3 &&& (3 : Int32))), .unset, .unset, .unset, .unset, .unset, .unset, .unset] [])) _
      refine XS.iloadN X0.here hx rfl (hb hby at_8) rfl ?_
      show Steps p.tables e below (s₁.setTop (mkF m 9 #[.val (.int p1), .val (.int p2), .val (.int p3), .val (.int (p3 &&& (3 : Int32))), .unset, .unset, .unset, .unset, .unset, .unset, .unset] [(.int (p3 &&& (3 : Int32)))])) _
      refine XS.iconst X0.here hx rfl (hb hby at_9) ?_
      exact kt
    by_cases hc2 : (p3 &&& (3 : Int32)) = (1 : Int32)
    ·
      have k17 : ∀ t, Steps p.tables e below (s₁.setTop (mkF m 26 #[.val (.int p1), .val (.int p2), .val (.int p3), .val (.int (p3 &&& (3 : Int32))), .val (.int (0 : Int32)), .unset, .unset, .unset, .unset, .unset, .unset] [(.int (2 : Int32)), (.int (p3 &&& (3 : Int32)))])) t → Steps p.tables e below (s₁.setTop (entryFrame m #[(.int p1), (.int p2), (.int p3)] maxLocals)) t := by
        intro t kt
        refine k16 t ?_
        show Steps p.tables e below (s₁.setTop (mkF m 10 #[.val (.int p1), .val (.int p2), .val (.int p3), .val (.int (p3 &&& (3 : Int32))), .unset, .unset, .unset, .unset, .unset, .unset, .unset] [(.int (1 : Int32)), (.int (p3 &&& (3 : Int32)))])) _
        refine XS.icmpNo X0.here hx rfl (hb hby at_10) rfl (teq hc2).2 ?_
        show Steps p.tables e below (s₁.setTop (mkF m 13 #[.val (.int p1), .val (.int p2), .val (.int p3), .val (.int (p3 &&& (3 : Int32))), .unset, .unset, .unset, .unset, .unset, .unset, .unset] [])) _
        refine XS.iconst X0.here hx rfl (hb hby at_13) ?_
        show Steps p.tables e below (s₁.setTop (mkF m 14 #[.val (.int p1), .val (.int p2), .val (.int p3), .val (.int (p3 &&& (3 : Int32))), .unset, .unset, .unset, .unset, .unset, .unset, .unset] [(.int (0 : Int32))])) _
        refine XS.goto X0.here hx rfl (pc0 := 14) (pc' := 18) rfl (hb hby at_14) (by decide) (by decide) ?_
        show Steps p.tables e below (s₁.setTop (mkF m 18 #[.val (.int p1), .val (.int p2), .val (.int p3), .val (.int (p3 &&& (3 : Int32))), .unset, .unset, .unset, .unset, .unset, .unset, .unset] [(.int (0 : Int32))])) _
        refine XS.istore X0.here hx rfl (hb hby at_18) rfl (l' := #[.val (.int p1), .val (.int p2), .val (.int p3), .val (.int (p3 &&& (3 : Int32))), .val (.int (0 : Int32)), .unset, .unset, .unset, .unset, .unset, .unset]) rfl ?_
        show Steps p.tables e below (s₁.setTop (mkF m 20 #[.val (.int p1), .val (.int p2), .val (.int p3), .val (.int (p3 &&& (3 : Int32))), .val (.int (0 : Int32)), .unset, .unset, .unset, .unset, .unset, .unset] [])) _
        refine XS.iloadN X0.here hx rfl (hb hby at_20) rfl ?_
        show Steps p.tables e below (s₁.setTop (mkF m 21 #[.val (.int p1), .val (.int p2), .val (.int p3), .val (.int (p3 &&& (3 : Int32))), .val (.int (0 : Int32)), .unset, .unset, .unset, .unset, .unset, .unset] [(.int (p3 &&& (3 : Int32)))])) _
        refine XS.ifNo X0.here hx rfl (hb hby at_21) rfl ((if0 _ _).trans (feq hc1).1) ?_
        show Steps p.tables e below (s₁.setTop (mkF m 24 #[.val (.int p1), .val (.int p2), .val (.int p3), .val (.int (p3 &&& (3 : Int32))), .val (.int (0 : Int32)), .unset, .unset, .unset, .unset, .unset, .unset] [])) _
        refine XS.iloadN X0.here hx rfl (hb hby at_24) rfl ?_
        show Steps p.tables e below (s₁.setTop (mkF m 25 #[.val (.int p1), .val (.int p2), .val (.int p3), .val (.int (p3 &&& (3 : Int32))), .val (.int (0 : Int32)), .unset, .unset, .unset, .unset, .unset, .unset] [(.int (p3 &&& (3 : Int32)))])) _
        refine XS.iconst X0.here hx rfl (hb hby at_25) ?_
        exact kt
      by_cases hc3 : (p3 &&& (3 : Int32)) = (2 : Int32)
      ·
        obtain ⟨T18, h18, X18, e18, E18, A18, D18, -, st18⟩ := newO X0 hx hZ hown (hw _ (List.mem_of_getElem? (i := 1) rfl)) (hw _ (List.mem_of_getElem? (i := 2) rfl)) (hw _ (List.mem_of_getElem? (i := 3) rfl)) e0 (g := (mkF m 37 #[.val (.int p1), .val (.int p2), .val (.int p3), .val (.int (p3 &&& (3 : Int32))), .val (.int (0 : Int32)), .val (.int (2147483647 : Int32)), .unset, .unset, .unset, .unset, .unset] [])) rfl (hb hby at_37) (by decide) (by decide)
        obtain ⟨b18, g18⟩ : ∃ z, z = h0.size := ⟨_, rfl⟩
        rw [← g18] at A18 D18 st18
        have ne_w_EMPTY_LIST_b18 : w_EMPTY_LIST ≠ b18 := Nat.ne_of_lt (Nat.lt_of_lt_of_le (F_elements_w_EMPTY_LIST.ext O0.2).lt (Nat.le_of_eq g18.symm))
        have ne_w_elements_w_EMPTY_LIST_b18 : w_elements_w_EMPTY_LIST ≠ b18 := Nat.ne_of_lt (Nat.lt_of_lt_of_le (V_w_elements_w_EMPTY_LIST.ext O0.2).lt (Nat.le_of_eq g18.symm))
        have ne_w_EMPTY_b18 : w_EMPTY ≠ b18 := Nat.ne_of_lt (Nat.lt_of_lt_of_le (E_w_EMPTY.ext O0.2).lt (Nat.le_of_eq g18.symm))
        have g_b18 : n0 ≤ b18 := Nat.le_trans Z0 (Nat.le_of_eq g18.symm)
        have O19 := O0.ext E18
        have Z20 := Nat.le_trans Z0 E18.1
        have F_first_b18 : Fld Z h18 b18 "com/example/fetch_plan/fetchplan/Page" "first" "I" (.int (0 : Int32)) := D18 (Or.inr (hw _ (List.mem_of_getElem? (i := 16) rfl))) (ty := .int) (by decide)
        have F_max_b18 : Fld Z h18 b18 "com/example/fetch_plan/fetchplan/Page" "max" "I" (.int (0 : Int32)) := D18 (Or.inr (hw _ (List.mem_of_getElem? (i := 18) rfl))) (ty := .int) (by decide)
        obtain ⟨v21, _, ⟨T21, L21, k21, n21⟩, -, X21, ⟨Lc21, hQ21, l21, y21, z21⟩, st21⟩ := X18.specialBack hx (y := (⟨"com/example/fetch_plan/fetchplan/Page", "<init>", "(II)V"⟩ : MethodName)) rfl hown (mvT hZ (hw _ (List.mem_of_getElem? (i := 4) rfl))) (mvT hZ (hw _ (List.mem_of_getElem? (i := 5) rfl))) (mvT hZ (hw _ (List.mem_of_getElem? (i := 6) rfl))) (by decide) (backOf (W := 1) (own_rm1 l Z a0 hw [] b18 (0 : Int32) (2147483647 : Int32) (0 : Int32) (0 : Int32) h18 n0 Z20 A18 F_first_b18 g_b18 F_max_b18) hZ (hw _ (List.mem_of_getElem? (i := 6) rfl)) (hw _ (List.mem_of_getElem? (i := 3) rfl)) (by decide) (by decide)) (g := (mkF m 45 #[.val (.int p1), .val (.int p2), .val (.int p3), .val (.int (p3 &&& (3 : Int32))), .val (.int (0 : Int32)), .val (.int (2147483647 : Int32)), .unset, .unset, .unset, .unset, .unset] [(.int (2147483647 : Int32)), (.int (0 : Int32)), (.ref b18), (.ref b18)])) rfl (by rw [hml]; rfl) (Steps.refl _) (a := b18) (argsL := [(.int (0 : Int32)), (.int (2147483647 : Int32))]) (rest := [(.ref b18)]) (lenOf own_pd142 rfl) rfl (by show 2 * 0 + _ ≤ _; exact Nat.le_of_eq rfl) (hb hby at_45) (fun _ _ => ⟨rfl, e18, (by decide : 1 + 0 ≤ _), (by decide : 2 + 0 ≤ _)⟩)
        dsimp only [Pt.U, Pt.locs, Pt.cells, Pt.slots] at X21 l21 y21 z21 st21 hQ21
        subst l21 y21 z21
        obtain ⟨rfl, N21q, K21, Q21_0, Q21_1, Q21_2⟩ := hQ21
        have O22 := O19.keep K21 (allS g_b18 all0)
        have f23 := A18.keep K21
        have Z26 := Nat.le_trans Z20 K21.1
        have N27 := Fr.app N0 N21q
        obtain ⟨cq28, kq28, q28a, q28b, q28c⟩ := isOf hZ rfl Q21_0
        obtain ⟨v28, _, ⟨T28, L28, k28, n28⟩, -, X28, ⟨Lc28, hQ28, l28, y28, z28⟩, st28⟩ := X21.virtualBack hx (y := (⟨"com/example/fetch_plan/fetchplan/Page", "parameters", "()Ljava/util/List;"⟩ : MethodName)) (z := (⟨"com/example/fetch_plan/fetchplan/Page", "parameters", "()Ljava/util/List;"⟩ : MethodName)) hown (mvT hZ (hw _ (List.mem_of_getElem? (i := 19) rfl))) (mvT hZ (hw _ (List.mem_of_getElem? (i := 20) rfl))) (notFace_of_selects (args := #[]) (mvT hZ (hw _ (List.mem_of_getElem? (i := 22) rfl)))) (mvT hZ (hw _ (List.mem_of_getElem? (i := 22) rfl))) (mvT hZ (hw _ (List.mem_of_getElem? (i := 21) rfl))) (by decide) (backOf (W := 0) (own_vA_rm4 l Z a0 hw [] b18 (0 : Int32) (2147483647 : Int32) w_EMPTY_LIST T21.heap n0 Z26 O22 (by decide : (0 : Int32) = (0 : Int32)) (by decide : (2147483647 : Int32) = (2147483647 : Int32)) Q21_1 Q21_2 Q21_0 S_EMPTY_LIST) hZ (hw _ (List.mem_of_getElem? (i := 23) rfl)) (hw _ (List.mem_of_getElem? (i := 3) rfl)) (by decide) (by decide)) q28a q28c (g := (mkF m 52 #[.val (.int p1), .val (.int p2), .val (.int p3), .val (.int (p3 &&& (3 : Int32))), .val (.int (0 : Int32)), .val (.int (2147483647 : Int32)), .val (.ref b18), .unset, .unset, .unset, .unset] [(.ref b18)])) rfl (by rw [hml]; rfl) (Steps.refl _) (argsL := []) (rest := []) (lenOf own_pd101 rfl) rfl (by show 2 * 0 + _ ≤ _; exact Nat.le_of_eq rfl) (hb hby at_52) (fun _ _ => ⟨rfl, rfl, (by decide : 1 + 0 ≤ _), (by decide : 2 + 0 ≤ _)⟩)
        dsimp only [Pt.U, Pt.locs, Pt.cells, Pt.slots] at X28 l28 y28 z28 st28 hQ28
        subst l28 y28 z28
        obtain ⟨hv28, N28q, e28⟩ := hQ28
        have N29 := Fr.app N27 N28q
        rw [show (own_vA_f4 w_EMPTY_LIST) = w_EMPTY_LIST from by first | rfl | decide | simp [own_vA_f4]] at hv28
        subst hv28
        obtain ⟨cq30, kq30, q30a, q30b, q30c⟩ := isOf hZ e28 (E_w_EMPTY_LIST.ext O22.2)
        obtain ⟨v30, _, ⟨T30, L30, k30, n30⟩, -, X30, ⟨Lc30, hQ30, l30, y30, z30⟩, st30⟩ := X28.interfaceBack hx (xi := (⟨"java/util/List", "size", "()I"⟩ : MethodName)) (y := (⟨"java/util/ImmutableCollections$ListN", "size", "()I"⟩ : MethodName)) hown (mvT hZ (hw _ (List.mem_of_getElem? (i := 36) rfl))) (mvT hZ (hw _ (List.mem_of_getElem? (i := 37) rfl))) (mvT hZ (hw _ (List.mem_of_getElem? (i := 38) rfl))) (mvT hZ (hw _ (List.mem_of_getElem? (i := 39) rfl))) (mvT hZ (hw _ (List.mem_of_getElem? (i := 40) rfl))) (mvT hZ (hw _ (List.mem_of_getElem? (i := 41) rfl))) (mvT hZ (hw _ (List.mem_of_getElem? (i := 42) rfl))) (mvT hZ (hw _ (List.mem_of_getElem? (i := 43) rfl))) (by decide) (backOf (W := 0) (own_rm7 l Z a0 hw [] w_EMPTY_LIST k_w_elements_w_EMPTY_LIST w_elements_w_EMPTY_LIST T21.heap n0 Z26 (V_w_elements_w_EMPTY_LIST.ext O22.2) (F_elements_w_EMPTY_LIST.ext O22.2)) hZ (hw _ (List.mem_of_getElem? (i := 45) rfl)) (hw _ (List.mem_of_getElem? (i := 44) rfl)) (by decide) (by decide)) q30a q30b q30c (g := (mkF m 83 #[.val (.int p1), .val (.int p2), .val (.int p3), .val (.int (p3 &&& (3 : Int32))), .val (.int (0 : Int32)), .val (.int (2147483647 : Int32)), .val (.ref b18), .val (.ref w_EMPTY_LIST), .val (.int (1 : Int32)), .unset, .unset] [(.ref w_EMPTY_LIST)])) rfl (by rw [hml]; rfl) (Steps.refl _) (argsL := []) (rest := []) (lenOf own_pd143 rfl) rfl (by show 2 * 0 + _ ≤ _; exact Nat.le_of_eq rfl) (hb hby at_83) (fun _ _ => ⟨rfl, e28, (by decide : 1 + 0 ≤ _), (by decide : 2 + 0 ≤ _)⟩)
        dsimp only [Pt.U, Pt.locs, Pt.cells, Pt.slots] at X30 l30 y30 z30 st30 hQ30
        subst l30 y30 z30
        obtain ⟨hv30, N30q, e30⟩ := hQ30
        have N31 := Fr.app N29 N30q
        rw [show (own_f7) = (0 : Int32) from by first | rfl | decide | simp [own_f7]] at hv30
        subst hv30
        obtain ⟨fs, hr, hrun, hended, hW, hsame⟩ := X30.leave (hlocks := hlk) (v := some (.int (1 : Int32))) (fun h => by rw [Bd.returns] at h; cases h)
        refine ⟨_, _, k17 _ ?_, hrun, hended, _, _, rfl, ?_, ⟨_, rfl⟩, hW, hsame.mono (by decide) (by decide)⟩
        · show Steps p.tables e below (s₁.setTop (mkF m 26 #[.val (.int p1), .val (.int p2), .val (.int p3), .val (.int (p3 &&& (3 : Int32))), .val (.int (0 : Int32)), .unset, .unset, .unset, .unset, .unset, .unset] [(.int (2 : Int32)), (.int (p3 &&& (3 : Int32)))])) _
          refine XS.icmpNo X0.here hx rfl (hb hby at_26) rfl (teq hc3).2 ?_
          show Steps p.tables e below (s₁.setTop (mkF m 29 #[.val (.int p1), .val (.int p2), .val (.int p3), .val (.int (p3 &&& (3 : Int32))), .val (.int (0 : Int32)), .unset, .unset, .unset, .unset, .unset, .unset] [])) _
          refine X0.ldcInt hx hown (mvT hZ (hw _ (List.mem_of_getElem? (i := 0) rfl))) (g := (mkF m 29 #[.val (.int p1), .val (.int p2), .val (.int p3), .val (.int (p3 &&& (3 : Int32))), .val (.int (0 : Int32)), .unset, .unset, .unset, .unset, .unset, .unset] [])) rfl (hb hby at_29) _ ?_
          show Steps p.tables e below (s₁.setTop (mkF m 31 #[.val (.int p1), .val (.int p2), .val (.int p3), .val (.int (p3 &&& (3 : Int32))), .val (.int (0 : Int32)), .unset, .unset, .unset, .unset, .unset, .unset] [(.int (2147483647 : Int32))])) _
          refine XS.goto X0.here hx rfl (pc0 := 31) (pc' := 35) rfl (hb hby at_31) (by decide) (by decide) ?_
          show Steps p.tables e below (s₁.setTop (mkF m 35 #[.val (.int p1), .val (.int p2), .val (.int p3), .val (.int (p3 &&& (3 : Int32))), .val (.int (0 : Int32)), .unset, .unset, .unset, .unset, .unset, .unset] [(.int (2147483647 : Int32))])) _
          refine XS.istore X0.here hx rfl (hb hby at_35) rfl (l' := #[.val (.int p1), .val (.int p2), .val (.int p3), .val (.int (p3 &&& (3 : Int32))), .val (.int (0 : Int32)), .val (.int (2147483647 : Int32)), .unset, .unset, .unset, .unset, .unset]) rfl ?_
          show Steps p.tables e below (s₁.setTop (mkF m 37 #[.val (.int p1), .val (.int p2), .val (.int p3), .val (.int (p3 &&& (3 : Int32))), .val (.int (0 : Int32)), .val (.int (2147483647 : Int32)), .unset, .unset, .unset, .unset, .unset] [])) _
          refine st18 _ ?_
          show Steps p.tables e below (T18.setTop (mkF m 40 #[.val (.int p1), .val (.int p2), .val (.int p3), .val (.int (p3 &&& (3 : Int32))), .val (.int (0 : Int32)), .val (.int (2147483647 : Int32)), .unset, .unset, .unset, .unset, .unset] [(.ref b18)])) _
          refine XS.dup X18.here hx rfl (hb hby at_40) rfl rfl ?_
          show Steps p.tables e below (T18.setTop (mkF m 41 #[.val (.int p1), .val (.int p2), .val (.int p3), .val (.int (p3 &&& (3 : Int32))), .val (.int (0 : Int32)), .val (.int (2147483647 : Int32)), .unset, .unset, .unset, .unset, .unset] [(.ref b18), (.ref b18)])) _
          refine XS.iload X18.here hx rfl (hb hby at_41) rfl ?_
          show Steps p.tables e below (T18.setTop (mkF m 43 #[.val (.int p1), .val (.int p2), .val (.int p3), .val (.int (p3 &&& (3 : Int32))), .val (.int (0 : Int32)), .val (.int (2147483647 : Int32)), .unset, .unset, .unset, .unset, .unset] [(.int (0 : Int32)), (.ref b18), (.ref b18)])) _
          refine XS.iload X18.here hx rfl (hb hby at_43) rfl ?_
          show Steps p.tables e below (T18.setTop (mkF m 45 #[.val (.int p1), .val (.int p2), .val (.int p3), .val (.int (p3 &&& (3 : Int32))), .val (.int (0 : Int32)), .val (.int (2147483647 : Int32)), .unset, .unset, .unset, .unset, .unset] [(.int (2147483647 : Int32)), (.int (0 : Int32)), (.ref b18), (.ref b18)])) _
          refine st21.trans ?_
          show Steps p.tables e below (T21.setTop (mkF m 48 #[.val (.int p1), .val (.int p2), .val (.int p3), .val (.int (p3 &&& (3 : Int32))), .val (.int (0 : Int32)), .val (.int (2147483647 : Int32)), .unset, .unset, .unset, .unset, .unset] [(.ref b18)])) _
          refine XS.astore X21.here hx rfl (hb hby at_48) rfl rfl (l' := #[.val (.int p1), .val (.int p2), .val (.int p3), .val (.int (p3 &&& (3 : Int32))), .val (.int (0 : Int32)), .val (.int (2147483647 : Int32)), .val (.ref b18), .unset, .unset, .unset, .unset]) rfl ?_
          show Steps p.tables e below (T21.setTop (mkF m 50 #[.val (.int p1), .val (.int p2), .val (.int p3), .val (.int (p3 &&& (3 : Int32))), .val (.int (0 : Int32)), .val (.int (2147483647 : Int32)), .val (.ref b18), .unset, .unset, .unset, .unset] [])) _
          refine XS.aload X21.here hx rfl (hb hby at_50) rfl rfl ?_
          show Steps p.tables e below (T21.setTop (mkF m 52 #[.val (.int p1), .val (.int p2), .val (.int p3), .val (.int (p3 &&& (3 : Int32))), .val (.int (0 : Int32)), .val (.int (2147483647 : Int32)), .val (.ref b18), .unset, .unset, .unset, .unset] [(.ref b18)])) _
          refine st28.trans ?_
          show Steps p.tables e below (T28.setTop (mkF m 55 #[.val (.int p1), .val (.int p2), .val (.int p3), .val (.int (p3 &&& (3 : Int32))), .val (.int (0 : Int32)), .val (.int (2147483647 : Int32)), .val (.ref b18), .unset, .unset, .unset, .unset] [(.ref w_EMPTY_LIST)])) _
          refine XS.astore X28.here hx rfl (hb hby at_55) rfl rfl (l' := #[.val (.int p1), .val (.int p2), .val (.int p3), .val (.int (p3 &&& (3 : Int32))), .val (.int (0 : Int32)), .val (.int (2147483647 : Int32)), .val (.ref b18), .val (.ref w_EMPTY_LIST), .unset, .unset, .unset]) rfl ?_
          show Steps p.tables e below (T28.setTop (mkF m 57 #[.val (.int p1), .val (.int p2), .val (.int p3), .val (.int (p3 &&& (3 : Int32))), .val (.int (0 : Int32)), .val (.int (2147483647 : Int32)), .val (.ref b18), .val (.ref w_EMPTY_LIST), .unset, .unset, .unset] [])) _
          refine XS.iload X28.here hx rfl (hb hby at_57) rfl ?_
          show Steps p.tables e below (T28.setTop (mkF m 59 #[.val (.int p1), .val (.int p2), .val (.int p3), .val (.int (p3 &&& (3 : Int32))), .val (.int (0 : Int32)), .val (.int (2147483647 : Int32)), .val (.ref b18), .val (.ref w_EMPTY_LIST), .unset, .unset, .unset] [(.int (0 : Int32))])) _
          refine XS.ifNo X28.here hx rfl (hb hby at_59) rfl ((if0 _ _).trans (teq (by decide : (0 : Int32) = (0 : Int32))).2) ?_
          show Steps p.tables e below (T28.setTop (mkF m 62 #[.val (.int p1), .val (.int p2), .val (.int p3), .val (.int (p3 &&& (3 : Int32))), .val (.int (0 : Int32)), .val (.int (2147483647 : Int32)), .val (.ref b18), .val (.ref w_EMPTY_LIST), .unset, .unset, .unset] [])) _
          refine XS.iload X28.here hx rfl (hb hby at_62) rfl ?_
          show Steps p.tables e below (T28.setTop (mkF m 64 #[.val (.int p1), .val (.int p2), .val (.int p3), .val (.int (p3 &&& (3 : Int32))), .val (.int (0 : Int32)), .val (.int (2147483647 : Int32)), .val (.ref b18), .val (.ref w_EMPTY_LIST), .unset, .unset, .unset] [(.int (2147483647 : Int32))])) _
          refine X28.ldcInt hx hown (mvT hZ (hw _ (List.mem_of_getElem? (i := 0) rfl))) (g := (mkF m 64 #[.val (.int p1), .val (.int p2), .val (.int p3), .val (.int (p3 &&& (3 : Int32))), .val (.int (0 : Int32)), .val (.int (2147483647 : Int32)), .val (.ref b18), .val (.ref w_EMPTY_LIST), .unset, .unset, .unset] [(.int (2147483647 : Int32))])) rfl (hb hby at_64) _ ?_
          show Steps p.tables e below (T28.setTop (mkF m 66 #[.val (.int p1), .val (.int p2), .val (.int p3), .val (.int (p3 &&& (3 : Int32))), .val (.int (0 : Int32)), .val (.int (2147483647 : Int32)), .val (.ref b18), .val (.ref w_EMPTY_LIST), .unset, .unset, .unset] [(.int (2147483647 : Int32)), (.int (2147483647 : Int32))])) _
          refine XS.icmpNo X28.here hx rfl (hb hby at_66) rfl (teq (by decide : (2147483647 : Int32) = (2147483647 : Int32))).2 ?_
          show Steps p.tables e below (T28.setTop (mkF m 69 #[.val (.int p1), .val (.int p2), .val (.int p3), .val (.int (p3 &&& (3 : Int32))), .val (.int (0 : Int32)), .val (.int (2147483647 : Int32)), .val (.ref b18), .val (.ref w_EMPTY_LIST), .unset, .unset, .unset] [])) _
          refine XS.iconst X28.here hx rfl (hb hby at_69) ?_
          show Steps p.tables e below (T28.setTop (mkF m 70 #[.val (.int p1), .val (.int p2), .val (.int p3), .val (.int (p3 &&& (3 : Int32))), .val (.int (0 : Int32)), .val (.int (2147483647 : Int32)), .val (.ref b18), .val (.ref w_EMPTY_LIST), .unset, .unset, .unset] [(.int (1 : Int32))])) _
          refine XS.goto X28.here hx rfl (pc0 := 70) (pc' := 74) rfl (hb hby at_70) (by decide) (by decide) ?_
          show Steps p.tables e below (T28.setTop (mkF m 74 #[.val (.int p1), .val (.int p2), .val (.int p3), .val (.int (p3 &&& (3 : Int32))), .val (.int (0 : Int32)), .val (.int (2147483647 : Int32)), .val (.ref b18), .val (.ref w_EMPTY_LIST), .unset, .unset, .unset] [(.int (1 : Int32))])) _
          refine XS.istore X28.here hx rfl (hb hby at_74) rfl (l' := #[.val (.int p1), .val (.int p2), .val (.int p3), .val (.int (p3 &&& (3 : Int32))), .val (.int (0 : Int32)), .val (.int (2147483647 : Int32)), .val (.ref b18), .val (.ref w_EMPTY_LIST), .val (.int (1 : Int32)), .unset, .unset]) rfl ?_
          show Steps p.tables e below (T28.setTop (mkF m 76 #[.val (.int p1), .val (.int p2), .val (.int p3), .val (.int (p3 &&& (3 : Int32))), .val (.int (0 : Int32)), .val (.int (2147483647 : Int32)), .val (.ref b18), .val (.ref w_EMPTY_LIST), .val (.int (1 : Int32)), .unset, .unset] [])) _
          refine XS.iload X28.here hx rfl (hb hby at_76) rfl ?_
          show Steps p.tables e below (T28.setTop (mkF m 78 #[.val (.int p1), .val (.int p2), .val (.int p3), .val (.int (p3 &&& (3 : Int32))), .val (.int (0 : Int32)), .val (.int (2147483647 : Int32)), .val (.ref b18), .val (.ref w_EMPTY_LIST), .val (.int (1 : Int32)), .unset, .unset] [(.int (1 : Int32))])) _
          refine XS.ifNo X28.here hx rfl (hb hby at_78) rfl ((if0 _ _).trans (feq (by decide : ¬ ((1 : Int32) = (0 : Int32)))).1) ?_
          show Steps p.tables e below (T28.setTop (mkF m 81 #[.val (.int p1), .val (.int p2), .val (.int p3), .val (.int (p3 &&& (3 : Int32))), .val (.int (0 : Int32)), .val (.int (2147483647 : Int32)), .val (.ref b18), .val (.ref w_EMPTY_LIST), .val (.int (1 : Int32)), .unset, .unset] [])) _
          refine XS.aload X28.here hx rfl (hb hby at_81) rfl rfl ?_
          show Steps p.tables e below (T28.setTop (mkF m 83 #[.val (.int p1), .val (.int p2), .val (.int p3), .val (.int (p3 &&& (3 : Int32))), .val (.int (0 : Int32)), .val (.int (2147483647 : Int32)), .val (.ref b18), .val (.ref w_EMPTY_LIST), .val (.int (1 : Int32)), .unset, .unset] [(.ref w_EMPTY_LIST)])) _
          refine st30.trans ?_
          show Steps p.tables e below (T30.setTop (mkF m 88 #[.val (.int p1), .val (.int p2), .val (.int p3), .val (.int (p3 &&& (3 : Int32))), .val (.int (0 : Int32)), .val (.int (2147483647 : Int32)), .val (.ref b18), .val (.ref w_EMPTY_LIST), .val (.int (1 : Int32)), .unset, .unset] [(.int (0 : Int32))])) _
          refine XS.ifNo X30.here hx rfl (hb hby at_88) rfl ((if0 _ _).trans (teq (by decide : (0 : Int32) = (0 : Int32))).2) ?_
          show Steps p.tables e below (T30.setTop (mkF m 91 #[.val (.int p1), .val (.int p2), .val (.int p3), .val (.int (p3 &&& (3 : Int32))), .val (.int (0 : Int32)), .val (.int (2147483647 : Int32)), .val (.ref b18), .val (.ref w_EMPTY_LIST), .val (.int (1 : Int32)), .unset, .unset] [])) _
          refine XS.iconst X30.here hx rfl (hb hby at_91) ?_
          show Steps p.tables e below (T30.setTop (mkF m 92 #[.val (.int p1), .val (.int p2), .val (.int p3), .val (.int (p3 &&& (3 : Int32))), .val (.int (0 : Int32)), .val (.int (2147483647 : Int32)), .val (.ref b18), .val (.ref w_EMPTY_LIST), .val (.int (1 : Int32)), .unset, .unset] [(.int (1 : Int32))])) _
          refine XS.goto X30.here hx rfl (pc0 := 92) (pc' := 96) rfl (hb hby at_92) (by decide) (by decide) ?_
          show Steps p.tables e below (T30.setTop (mkF m 96 #[.val (.int p1), .val (.int p2), .val (.int p3), .val (.int (p3 &&& (3 : Int32))), .val (.int (0 : Int32)), .val (.int (2147483647 : Int32)), .val (.ref b18), .val (.ref w_EMPTY_LIST), .val (.int (1 : Int32)), .unset, .unset] [(.int (1 : Int32))])) _
          exact retN X30 hx (t := .boolean) Bd.returns (by simp) (hb hby at_96) hr
        · show own_Q0 Z p1 p2 p3 clc w_EMPTY_LIST w_elements_w_EMPTY_LIST k_w_elements_w_EMPTY_LIST w_cache w_EMPTY h0 n0 _ T30.heap _
          rw [e30]
          exact ⟨(by rw [own_f0, if_neg hc1, if_pos hc2, if_pos hc3]), N31⟩
      ·
        obtain ⟨T32, h32, X32, e32, E32, A32, D32, -, st32⟩ := newO X0 hx hZ hown (hw _ (List.mem_of_getElem? (i := 1) rfl)) (hw _ (List.mem_of_getElem? (i := 2) rfl)) (hw _ (List.mem_of_getElem? (i := 3) rfl)) e0 (g := (mkF m 37 #[.val (.int p1), .val (.int p2), .val (.int p3), .val (.int (p3 &&& (3 : Int32))), .val (.int (0 : Int32)), .val (.int p2), .unset, .unset, .unset, .unset, .unset] [])) rfl (hb hby at_37) (by decide) (by decide)
        obtain ⟨b32, g32⟩ : ∃ z, z = h0.size := ⟨_, rfl⟩
        rw [← g32] at A32 D32 st32
        have ne_w_EMPTY_LIST_b32 : w_EMPTY_LIST ≠ b32 := Nat.ne_of_lt (Nat.lt_of_lt_of_le (F_elements_w_EMPTY_LIST.ext O0.2).lt (Nat.le_of_eq g32.symm))
        have ne_w_elements_w_EMPTY_LIST_b32 : w_elements_w_EMPTY_LIST ≠ b32 := Nat.ne_of_lt (Nat.lt_of_lt_of_le (V_w_elements_w_EMPTY_LIST.ext O0.2).lt (Nat.le_of_eq g32.symm))
        have ne_w_EMPTY_b32 : w_EMPTY ≠ b32 := Nat.ne_of_lt (Nat.lt_of_lt_of_le (E_w_EMPTY.ext O0.2).lt (Nat.le_of_eq g32.symm))
        have g_b32 : n0 ≤ b32 := Nat.le_trans Z0 (Nat.le_of_eq g32.symm)
        have O33 := O0.ext E32
        have Z34 := Nat.le_trans Z0 E32.1
        have F_first_b32 : Fld Z h32 b32 "com/example/fetch_plan/fetchplan/Page" "first" "I" (.int (0 : Int32)) := D32 (Or.inr (hw _ (List.mem_of_getElem? (i := 16) rfl))) (ty := .int) (by decide)
        have F_max_b32 : Fld Z h32 b32 "com/example/fetch_plan/fetchplan/Page" "max" "I" (.int (0 : Int32)) := D32 (Or.inr (hw _ (List.mem_of_getElem? (i := 18) rfl))) (ty := .int) (by decide)
        obtain ⟨v35, _, ⟨T35, L35, k35, n35⟩, -, X35, ⟨Lc35, hQ35, l35, y35, z35⟩, st35⟩ := X32.specialBack hx (y := (⟨"com/example/fetch_plan/fetchplan/Page", "<init>", "(II)V"⟩ : MethodName)) rfl hown (mvT hZ (hw _ (List.mem_of_getElem? (i := 4) rfl))) (mvT hZ (hw _ (List.mem_of_getElem? (i := 5) rfl))) (mvT hZ (hw _ (List.mem_of_getElem? (i := 6) rfl))) (by decide) (backOf (W := 1) (own_rm1 l Z a0 hw [] b32 (0 : Int32) p2 (0 : Int32) (0 : Int32) h32 n0 Z34 A32 F_first_b32 g_b32 F_max_b32) hZ (hw _ (List.mem_of_getElem? (i := 6) rfl)) (hw _ (List.mem_of_getElem? (i := 3) rfl)) (by decide) (by decide)) (g := (mkF m 45 #[.val (.int p1), .val (.int p2), .val (.int p3), .val (.int (p3 &&& (3 : Int32))), .val (.int (0 : Int32)), .val (.int p2), .unset, .unset, .unset, .unset, .unset] [(.int p2), (.int (0 : Int32)), (.ref b32), (.ref b32)])) rfl (by rw [hml]; rfl) (Steps.refl _) (a := b32) (argsL := [(.int (0 : Int32)), (.int p2)]) (rest := [(.ref b32)]) (lenOf own_pd142 rfl) rfl (by show 2 * 0 + _ ≤ _; exact Nat.le_of_eq rfl) (hb hby at_45) (fun _ _ => ⟨rfl, e32, (by decide : 1 + 0 ≤ _), (by decide : 2 + 0 ≤ _)⟩)
        dsimp only [Pt.U, Pt.locs, Pt.cells, Pt.slots] at X35 l35 y35 z35 st35 hQ35
        subst l35 y35 z35
        obtain ⟨rfl, N35q, K35, Q35_0, Q35_1, Q35_2⟩ := hQ35
        have O36 := O33.keep K35 (allS g_b32 all0)
        have f37 := A32.keep K35
        have Z40 := Nat.le_trans Z34 K35.1
        have N41 := Fr.app N0 N35q
        have k42 : ∀ t, Steps p.tables e below (T35.setTop (mkF m 52 #[.val (.int p1), .val (.int p2), .val (.int p3), .val (.int (p3 &&& (3 : Int32))), .val (.int (0 : Int32)), .val (.int p2), .val (.ref b32), .unset, .unset, .unset, .unset] [(.ref b32)])) t → Steps p.tables e below (s₁.setTop (entryFrame m #[(.int p1), (.int p2), (.int p3)] maxLocals)) t := by
          intro t kt
          refine k17 t ?_
          show Steps p.tables e below (s₁.setTop (mkF m 26 #[.val (.int p1), .val (.int p2), .val (.int p3), .val (.int (p3 &&& (3 : Int32))), .val (.int (0 : Int32)), .unset, .unset, .unset, .unset, .unset, .unset] [(.int (2 : Int32)), (.int (p3 &&& (3 : Int32)))])) _
          refine XS.icmpYes X0.here hx rfl (pc0 := 26) (pc' := 34) rfl (hb hby at_26) rfl (feq hc3).2 (by decide) (by decide) ?_
          show Steps p.tables e below (s₁.setTop (mkF m 34 #[.val (.int p1), .val (.int p2), .val (.int p3), .val (.int (p3 &&& (3 : Int32))), .val (.int (0 : Int32)), .unset, .unset, .unset, .unset, .unset, .unset] [])) _
          refine XS.iloadN X0.here hx rfl (hb hby at_34) rfl ?_
          show Steps p.tables e below (s₁.setTop (mkF m 35 #[.val (.int p1), .val (.int p2), .val (.int p3), .val (.int (p3 &&& (3 : Int32))), .val (.int (0 : Int32)), .unset, .unset, .unset, .unset, .unset, .unset] [(.int p2)])) _
          refine XS.istore X0.here hx rfl (hb hby at_35) rfl (l' := #[.val (.int p1), .val (.int p2), .val (.int p3), .val (.int (p3 &&& (3 : Int32))), .val (.int (0 : Int32)), .val (.int p2), .unset, .unset, .unset, .unset, .unset]) rfl ?_
          show Steps p.tables e below (s₁.setTop (mkF m 37 #[.val (.int p1), .val (.int p2), .val (.int p3), .val (.int (p3 &&& (3 : Int32))), .val (.int (0 : Int32)), .val (.int p2), .unset, .unset, .unset, .unset, .unset] [])) _
          refine st32 _ ?_
          show Steps p.tables e below (T32.setTop (mkF m 40 #[.val (.int p1), .val (.int p2), .val (.int p3), .val (.int (p3 &&& (3 : Int32))), .val (.int (0 : Int32)), .val (.int p2), .unset, .unset, .unset, .unset, .unset] [(.ref b32)])) _
          refine XS.dup X32.here hx rfl (hb hby at_40) rfl rfl ?_
          show Steps p.tables e below (T32.setTop (mkF m 41 #[.val (.int p1), .val (.int p2), .val (.int p3), .val (.int (p3 &&& (3 : Int32))), .val (.int (0 : Int32)), .val (.int p2), .unset, .unset, .unset, .unset, .unset] [(.ref b32), (.ref b32)])) _
          refine XS.iload X32.here hx rfl (hb hby at_41) rfl ?_
          show Steps p.tables e below (T32.setTop (mkF m 43 #[.val (.int p1), .val (.int p2), .val (.int p3), .val (.int (p3 &&& (3 : Int32))), .val (.int (0 : Int32)), .val (.int p2), .unset, .unset, .unset, .unset, .unset] [(.int (0 : Int32)), (.ref b32), (.ref b32)])) _
          refine XS.iload X32.here hx rfl (hb hby at_43) rfl ?_
          show Steps p.tables e below (T32.setTop (mkF m 45 #[.val (.int p1), .val (.int p2), .val (.int p3), .val (.int (p3 &&& (3 : Int32))), .val (.int (0 : Int32)), .val (.int p2), .unset, .unset, .unset, .unset, .unset] [(.int p2), (.int (0 : Int32)), (.ref b32), (.ref b32)])) _
          refine st35.trans ?_
          show Steps p.tables e below (T35.setTop (mkF m 48 #[.val (.int p1), .val (.int p2), .val (.int p3), .val (.int (p3 &&& (3 : Int32))), .val (.int (0 : Int32)), .val (.int p2), .unset, .unset, .unset, .unset, .unset] [(.ref b32)])) _
          refine XS.astore X35.here hx rfl (hb hby at_48) rfl rfl (l' := #[.val (.int p1), .val (.int p2), .val (.int p3), .val (.int (p3 &&& (3 : Int32))), .val (.int (0 : Int32)), .val (.int p2), .val (.ref b32), .unset, .unset, .unset, .unset]) rfl ?_
          show Steps p.tables e below (T35.setTop (mkF m 50 #[.val (.int p1), .val (.int p2), .val (.int p3), .val (.int (p3 &&& (3 : Int32))), .val (.int (0 : Int32)), .val (.int p2), .val (.ref b32), .unset, .unset, .unset, .unset] [])) _
          refine XS.aload X35.here hx rfl (hb hby at_50) rfl rfl ?_
          exact kt
        by_cases hc4 : p2 = (2147483647 : Int32)
        ·
          obtain ⟨cq43, kq43, q43a, q43b, q43c⟩ := isOf hZ rfl Q35_0
          obtain ⟨v43, _, ⟨T43, L43, k43, n43⟩, -, X43, ⟨Lc43, hQ43, l43, y43, z43⟩, st43⟩ := X35.virtualBack hx (y := (⟨"com/example/fetch_plan/fetchplan/Page", "parameters", "()Ljava/util/List;"⟩ : MethodName)) (z := (⟨"com/example/fetch_plan/fetchplan/Page", "parameters", "()Ljava/util/List;"⟩ : MethodName)) hown (mvT hZ (hw _ (List.mem_of_getElem? (i := 19) rfl))) (mvT hZ (hw _ (List.mem_of_getElem? (i := 20) rfl))) (notFace_of_selects (args := #[]) (mvT hZ (hw _ (List.mem_of_getElem? (i := 22) rfl)))) (mvT hZ (hw _ (List.mem_of_getElem? (i := 22) rfl))) (mvT hZ (hw _ (List.mem_of_getElem? (i := 21) rfl))) (by decide) (backOf (W := 0) (own_vA_rm4 l Z a0 hw [] b32 (0 : Int32) p2 w_EMPTY_LIST T35.heap n0 Z40 O36 (by decide : (0 : Int32) = (0 : Int32)) hc4 Q35_1 Q35_2 Q35_0 S_EMPTY_LIST) hZ (hw _ (List.mem_of_getElem? (i := 23) rfl)) (hw _ (List.mem_of_getElem? (i := 3) rfl)) (by decide) (by decide)) q43a q43c (g := (mkF m 52 #[.val (.int p1), .val (.int p2), .val (.int p3), .val (.int (p3 &&& (3 : Int32))), .val (.int (0 : Int32)), .val (.int p2), .val (.ref b32), .unset, .unset, .unset, .unset] [(.ref b32)])) rfl (by rw [hml]; rfl) (Steps.refl _) (argsL := []) (rest := []) (lenOf own_pd101 rfl) rfl (by show 2 * 0 + _ ≤ _; exact Nat.le_of_eq rfl) (hb hby at_52) (fun _ _ => ⟨rfl, rfl, (by decide : 1 + 0 ≤ _), (by decide : 2 + 0 ≤ _)⟩)
          dsimp only [Pt.U, Pt.locs, Pt.cells, Pt.slots] at X43 l43 y43 z43 st43 hQ43
          subst l43 y43 z43
          obtain ⟨hv43, N43q, e43⟩ := hQ43
          have N44 := Fr.app N41 N43q
          rw [show (own_vA_f4 w_EMPTY_LIST) = w_EMPTY_LIST from by first | rfl | decide | simp [own_vA_f4]] at hv43
          subst hv43
          obtain ⟨cq45, kq45, q45a, q45b, q45c⟩ := isOf hZ e43 (E_w_EMPTY_LIST.ext O36.2)
          obtain ⟨v45, _, ⟨T45, L45, k45, n45⟩, -, X45, ⟨Lc45, hQ45, l45, y45, z45⟩, st45⟩ := X43.interfaceBack hx (xi := (⟨"java/util/List", "size", "()I"⟩ : MethodName)) (y := (⟨"java/util/ImmutableCollections$ListN", "size", "()I"⟩ : MethodName)) hown (mvT hZ (hw _ (List.mem_of_getElem? (i := 36) rfl))) (mvT hZ (hw _ (List.mem_of_getElem? (i := 37) rfl))) (mvT hZ (hw _ (List.mem_of_getElem? (i := 38) rfl))) (mvT hZ (hw _ (List.mem_of_getElem? (i := 39) rfl))) (mvT hZ (hw _ (List.mem_of_getElem? (i := 40) rfl))) (mvT hZ (hw _ (List.mem_of_getElem? (i := 41) rfl))) (mvT hZ (hw _ (List.mem_of_getElem? (i := 42) rfl))) (mvT hZ (hw _ (List.mem_of_getElem? (i := 43) rfl))) (by decide) (backOf (W := 0) (own_rm7 l Z a0 hw [] w_EMPTY_LIST k_w_elements_w_EMPTY_LIST w_elements_w_EMPTY_LIST T35.heap n0 Z40 (V_w_elements_w_EMPTY_LIST.ext O36.2) (F_elements_w_EMPTY_LIST.ext O36.2)) hZ (hw _ (List.mem_of_getElem? (i := 45) rfl)) (hw _ (List.mem_of_getElem? (i := 44) rfl)) (by decide) (by decide)) q45a q45b q45c (g := (mkF m 83 #[.val (.int p1), .val (.int p2), .val (.int p3), .val (.int (p3 &&& (3 : Int32))), .val (.int (0 : Int32)), .val (.int p2), .val (.ref b32), .val (.ref w_EMPTY_LIST), .val (.int (1 : Int32)), .unset, .unset] [(.ref w_EMPTY_LIST)])) rfl (by rw [hml]; rfl) (Steps.refl _) (argsL := []) (rest := []) (lenOf own_pd143 rfl) rfl (by show 2 * 0 + _ ≤ _; exact Nat.le_of_eq rfl) (hb hby at_83) (fun _ _ => ⟨rfl, e43, (by decide : 1 + 0 ≤ _), (by decide : 2 + 0 ≤ _)⟩)
          dsimp only [Pt.U, Pt.locs, Pt.cells, Pt.slots] at X45 l45 y45 z45 st45 hQ45
          subst l45 y45 z45
          obtain ⟨hv45, N45q, e45⟩ := hQ45
          have N46 := Fr.app N44 N45q
          rw [show (own_f7) = (0 : Int32) from by first | rfl | decide | simp [own_f7]] at hv45
          subst hv45
          obtain ⟨fs, hr, hrun, hended, hW, hsame⟩ := X45.leave (hlocks := hlk) (v := some (.int (1 : Int32))) (fun h => by rw [Bd.returns] at h; cases h)
          refine ⟨_, _, k42 _ ?_, hrun, hended, _, _, rfl, ?_, ⟨_, rfl⟩, hW, hsame.mono (by decide) (by decide)⟩
          · show Steps p.tables e below (T35.setTop (mkF m 52 #[.val (.int p1), .val (.int p2), .val (.int p3), .val (.int (p3 &&& (3 : Int32))), .val (.int (0 : Int32)), .val (.int p2), .val (.ref b32), .unset, .unset, .unset, .unset] [(.ref b32)])) _
            refine st43.trans ?_
            show Steps p.tables e below (T43.setTop (mkF m 55 #[.val (.int p1), .val (.int p2), .val (.int p3), .val (.int (p3 &&& (3 : Int32))), .val (.int (0 : Int32)), .val (.int p2), .val (.ref b32), .unset, .unset, .unset, .unset] [(.ref w_EMPTY_LIST)])) _
            refine XS.astore X43.here hx rfl (hb hby at_55) rfl rfl (l' := #[.val (.int p1), .val (.int p2), .val (.int p3), .val (.int (p3 &&& (3 : Int32))), .val (.int (0 : Int32)), .val (.int p2), .val (.ref b32), .val (.ref w_EMPTY_LIST), .unset, .unset, .unset]) rfl ?_
            show Steps p.tables e below (T43.setTop (mkF m 57 #[.val (.int p1), .val (.int p2), .val (.int p3), .val (.int (p3 &&& (3 : Int32))), .val (.int (0 : Int32)), .val (.int p2), .val (.ref b32), .val (.ref w_EMPTY_LIST), .unset, .unset, .unset] [])) _
            refine XS.iload X43.here hx rfl (hb hby at_57) rfl ?_
            show Steps p.tables e below (T43.setTop (mkF m 59 #[.val (.int p1), .val (.int p2), .val (.int p3), .val (.int (p3 &&& (3 : Int32))), .val (.int (0 : Int32)), .val (.int p2), .val (.ref b32), .val (.ref w_EMPTY_LIST), .unset, .unset, .unset] [(.int (0 : Int32))])) _
            refine XS.ifNo X43.here hx rfl (hb hby at_59) rfl ((if0 _ _).trans (teq (by decide : (0 : Int32) = (0 : Int32))).2) ?_
            show Steps p.tables e below (T43.setTop (mkF m 62 #[.val (.int p1), .val (.int p2), .val (.int p3), .val (.int (p3 &&& (3 : Int32))), .val (.int (0 : Int32)), .val (.int p2), .val (.ref b32), .val (.ref w_EMPTY_LIST), .unset, .unset, .unset] [])) _
            refine XS.iload X43.here hx rfl (hb hby at_62) rfl ?_
            show Steps p.tables e below (T43.setTop (mkF m 64 #[.val (.int p1), .val (.int p2), .val (.int p3), .val (.int (p3 &&& (3 : Int32))), .val (.int (0 : Int32)), .val (.int p2), .val (.ref b32), .val (.ref w_EMPTY_LIST), .unset, .unset, .unset] [(.int p2)])) _
            refine X43.ldcInt hx hown (mvT hZ (hw _ (List.mem_of_getElem? (i := 0) rfl))) (g := (mkF m 64 #[.val (.int p1), .val (.int p2), .val (.int p3), .val (.int (p3 &&& (3 : Int32))), .val (.int (0 : Int32)), .val (.int p2), .val (.ref b32), .val (.ref w_EMPTY_LIST), .unset, .unset, .unset] [(.int p2)])) rfl (hb hby at_64) _ ?_
            show Steps p.tables e below (T43.setTop (mkF m 66 #[.val (.int p1), .val (.int p2), .val (.int p3), .val (.int (p3 &&& (3 : Int32))), .val (.int (0 : Int32)), .val (.int p2), .val (.ref b32), .val (.ref w_EMPTY_LIST), .unset, .unset, .unset] [(.int (2147483647 : Int32)), (.int p2)])) _
            refine XS.icmpNo X43.here hx rfl (hb hby at_66) rfl (teq hc4).2 ?_
            show Steps p.tables e below (T43.setTop (mkF m 69 #[.val (.int p1), .val (.int p2), .val (.int p3), .val (.int (p3 &&& (3 : Int32))), .val (.int (0 : Int32)), .val (.int p2), .val (.ref b32), .val (.ref w_EMPTY_LIST), .unset, .unset, .unset] [])) _
            refine XS.iconst X43.here hx rfl (hb hby at_69) ?_
            show Steps p.tables e below (T43.setTop (mkF m 70 #[.val (.int p1), .val (.int p2), .val (.int p3), .val (.int (p3 &&& (3 : Int32))), .val (.int (0 : Int32)), .val (.int p2), .val (.ref b32), .val (.ref w_EMPTY_LIST), .unset, .unset, .unset] [(.int (1 : Int32))])) _
            refine XS.goto X43.here hx rfl (pc0 := 70) (pc' := 74) rfl (hb hby at_70) (by decide) (by decide) ?_
            show Steps p.tables e below (T43.setTop (mkF m 74 #[.val (.int p1), .val (.int p2), .val (.int p3), .val (.int (p3 &&& (3 : Int32))), .val (.int (0 : Int32)), .val (.int p2), .val (.ref b32), .val (.ref w_EMPTY_LIST), .unset, .unset, .unset] [(.int (1 : Int32))])) _
            refine XS.istore X43.here hx rfl (hb hby at_74) rfl (l' := #[.val (.int p1), .val (.int p2), .val (.int p3), .val (.int (p3 &&& (3 : Int32))), .val (.int (0 : Int32)), .val (.int p2), .val (.ref b32), .val (.ref w_EMPTY_LIST), .val (.int (1 : Int32)), .unset, .unset]) rfl ?_
            show Steps p.tables e below (T43.setTop (mkF m 76 #[.val (.int p1), .val (.int p2), .val (.int p3), .val (.int (p3 &&& (3 : Int32))), .val (.int (0 : Int32)), .val (.int p2), .val (.ref b32), .val (.ref w_EMPTY_LIST), .val (.int (1 : Int32)), .unset, .unset] [])) _
            refine XS.iload X43.here hx rfl (hb hby at_76) rfl ?_
            show Steps p.tables e below (T43.setTop (mkF m 78 #[.val (.int p1), .val (.int p2), .val (.int p3), .val (.int (p3 &&& (3 : Int32))), .val (.int (0 : Int32)), .val (.int p2), .val (.ref b32), .val (.ref w_EMPTY_LIST), .val (.int (1 : Int32)), .unset, .unset] [(.int (1 : Int32))])) _
            refine XS.ifNo X43.here hx rfl (hb hby at_78) rfl ((if0 _ _).trans (feq (by decide : ¬ ((1 : Int32) = (0 : Int32)))).1) ?_
            show Steps p.tables e below (T43.setTop (mkF m 81 #[.val (.int p1), .val (.int p2), .val (.int p3), .val (.int (p3 &&& (3 : Int32))), .val (.int (0 : Int32)), .val (.int p2), .val (.ref b32), .val (.ref w_EMPTY_LIST), .val (.int (1 : Int32)), .unset, .unset] [])) _
            refine XS.aload X43.here hx rfl (hb hby at_81) rfl rfl ?_
            show Steps p.tables e below (T43.setTop (mkF m 83 #[.val (.int p1), .val (.int p2), .val (.int p3), .val (.int (p3 &&& (3 : Int32))), .val (.int (0 : Int32)), .val (.int p2), .val (.ref b32), .val (.ref w_EMPTY_LIST), .val (.int (1 : Int32)), .unset, .unset] [(.ref w_EMPTY_LIST)])) _
            refine st45.trans ?_
            show Steps p.tables e below (T45.setTop (mkF m 88 #[.val (.int p1), .val (.int p2), .val (.int p3), .val (.int (p3 &&& (3 : Int32))), .val (.int (0 : Int32)), .val (.int p2), .val (.ref b32), .val (.ref w_EMPTY_LIST), .val (.int (1 : Int32)), .unset, .unset] [(.int (0 : Int32))])) _
            refine XS.ifNo X45.here hx rfl (hb hby at_88) rfl ((if0 _ _).trans (teq (by decide : (0 : Int32) = (0 : Int32))).2) ?_
            show Steps p.tables e below (T45.setTop (mkF m 91 #[.val (.int p1), .val (.int p2), .val (.int p3), .val (.int (p3 &&& (3 : Int32))), .val (.int (0 : Int32)), .val (.int p2), .val (.ref b32), .val (.ref w_EMPTY_LIST), .val (.int (1 : Int32)), .unset, .unset] [])) _
            refine XS.iconst X45.here hx rfl (hb hby at_91) ?_
            show Steps p.tables e below (T45.setTop (mkF m 92 #[.val (.int p1), .val (.int p2), .val (.int p3), .val (.int (p3 &&& (3 : Int32))), .val (.int (0 : Int32)), .val (.int p2), .val (.ref b32), .val (.ref w_EMPTY_LIST), .val (.int (1 : Int32)), .unset, .unset] [(.int (1 : Int32))])) _
            refine XS.goto X45.here hx rfl (pc0 := 92) (pc' := 96) rfl (hb hby at_92) (by decide) (by decide) ?_
            show Steps p.tables e below (T45.setTop (mkF m 96 #[.val (.int p1), .val (.int p2), .val (.int p3), .val (.int (p3 &&& (3 : Int32))), .val (.int (0 : Int32)), .val (.int p2), .val (.ref b32), .val (.ref w_EMPTY_LIST), .val (.int (1 : Int32)), .unset, .unset] [(.int (1 : Int32))])) _
            exact retN X45 hx (t := .boolean) Bd.returns (by simp) (hb hby at_96) hr
          · show own_Q0 Z p1 p2 p3 clc w_EMPTY_LIST w_elements_w_EMPTY_LIST k_w_elements_w_EMPTY_LIST w_cache w_EMPTY h0 n0 _ T45.heap _
            rw [e45]
            exact ⟨(by rw [own_f0, if_neg hc1, if_pos hc2, if_neg hc3, if_pos hc4]), N46⟩
        ·
          obtain ⟨cq47, kq47, q47a, q47b, q47c⟩ := isOf hZ rfl Q35_0
          obtain ⟨v47, _, ⟨T47, L47, k47, n47⟩, -, X47, ⟨Lc47, hQ47, l47, y47, z47⟩, st47⟩ := X35.virtualBack hx (y := (⟨"com/example/fetch_plan/fetchplan/Page", "parameters", "()Ljava/util/List;"⟩ : MethodName)) (z := (⟨"com/example/fetch_plan/fetchplan/Page", "parameters", "()Ljava/util/List;"⟩ : MethodName)) hown (mvT hZ (hw _ (List.mem_of_getElem? (i := 19) rfl))) (mvT hZ (hw _ (List.mem_of_getElem? (i := 20) rfl))) (notFace_of_selects (args := #[]) (mvT hZ (hw _ (List.mem_of_getElem? (i := 22) rfl)))) (mvT hZ (hw _ (List.mem_of_getElem? (i := 22) rfl))) (mvT hZ (hw _ (List.mem_of_getElem? (i := 21) rfl))) (by decide) (backOf (W := 0) (own_vB_rm4 l Z a0 hw [] b32 clc (0 : Int32) p2 w_cache T35.heap n0 Z40 O36 (by decide : (0 : Int32) = (0 : Int32)) hc4 Hc Q35_1 Q35_2 Q35_0 S_high S_cache) hZ (hw _ (List.mem_of_getElem? (i := 23) rfl)) (hw _ (List.mem_of_getElem? (i := 3) rfl)) (by decide) (by decide)) q47a q47c (g := (mkF m 52 #[.val (.int p1), .val (.int p2), .val (.int p3), .val (.int (p3 &&& (3 : Int32))), .val (.int (0 : Int32)), .val (.int p2), .val (.ref b32), .unset, .unset, .unset, .unset] [(.ref b32)])) rfl (by rw [hml]; rfl) (Steps.refl _) (argsL := []) (rest := []) (lenOf own_pd101 rfl) rfl (by show 2 * 0 + _ ≤ _; exact Nat.le_of_eq rfl) (hb hby at_52) (fun _ _ => ⟨rfl, rfl, (by decide : 1 + 3 ≤ _), (by decide : 2 + 4 ≤ _)⟩)
          dsimp only [Pt.U, Pt.locs, Pt.cells, Pt.slots] at X47 l47 y47 z47 st47 hQ47
          subst l47 y47 z47
          obtain ⟨r47, x147, x247, rfl, N47q, K47, hr47, Q47_0, Q47_1, Q47_2, Q47_3, Q47_4, Q47_5, Q47_6⟩ := hQ47
          have ne_w_EMPTY_LIST_r47 : w_EMPTY_LIST ≠ r47 := Nat.ne_of_lt (Nat.lt_of_lt_of_le (F_elements_w_EMPTY_LIST.ext O36.2).lt hr47)
          have ne_w_elements_w_EMPTY_LIST_r47 : w_elements_w_EMPTY_LIST ≠ r47 := Nat.ne_of_lt (Nat.lt_of_lt_of_le (V_w_elements_w_EMPTY_LIST.ext O36.2).lt hr47)
          have ne_w_EMPTY_r47 : w_EMPTY ≠ r47 := Nat.ne_of_lt (Nat.lt_of_lt_of_le (E_w_EMPTY.ext O36.2).lt hr47)
          have ne_b32_r47 : b32 ≠ r47 := Nat.ne_of_lt (Nat.lt_of_lt_of_le Q35_0.lt hr47)
          have g_r47 : n0 ≤ r47 := Nat.le_trans Z40 hr47
          have O48 := O36.keep K47 all0
          have f49 := Q35_0.keep K47
          have f50 := Q35_1.keep K47 nin0
          have f51 := Q35_2.keep K47 nin0
          have Z52 := Nat.le_trans Z40 K47.1
          have N53 := Fr.app N41 N47q
          obtain ⟨cq54, kq54, q54a, q54b, q54c⟩ := isOf hZ rfl Q47_4
          obtain ⟨v54, _, ⟨T54, L54, k54, n54⟩, -, X54, ⟨Lc54, hQ54, l54, y54, z54⟩, st54⟩ := X47.interfaceBack hx (xi := (⟨"java/util/List", "size", "()I"⟩ : MethodName)) (y := (⟨"java/util/ImmutableCollections$List12", "size", "()I"⟩ : MethodName)) hown (mvT hZ (hw _ (List.mem_of_getElem? (i := 36) rfl))) (mvT hZ (hw _ (List.mem_of_getElem? (i := 37) rfl))) (mvT hZ (hw _ (List.mem_of_getElem? (i := 38) rfl))) (mvT hZ (hw _ (List.mem_of_getElem? (i := 92) rfl))) (mvT hZ (hw _ (List.mem_of_getElem? (i := 93) rfl))) (mvT hZ (hw _ (List.mem_of_getElem? (i := 94) rfl))) (mvT hZ (hw _ (List.mem_of_getElem? (i := 95) rfl))) (mvT hZ (hw _ (List.mem_of_getElem? (i := 96) rfl))) (by decide) (backOf (W := 0) (own_rm15 l Z a0 hw [] r47 x247 w_EMPTY T47.heap n0 Z52 O48 (Exa.ne Q47_2 (E_w_EMPTY.ext O48.2) (by decide)) Q47_6 S_EMPTY) hZ (hw _ (List.mem_of_getElem? (i := 97) rfl)) (hw _ (List.mem_of_getElem? (i := 60) rfl)) (by decide) (by decide)) q54a q54b q54c (g := (mkF m 99 #[.val (.int p1), .val (.int p2), .val (.int p3), .val (.int (p3 &&& (3 : Int32))), .val (.int (0 : Int32)), .val (.int p2), .val (.ref b32), .val (.ref r47), .val (.int (0 : Int32)), .unset, .unset] [(.ref r47)])) rfl (by rw [hml]; rfl) (Steps.refl _) (argsL := []) (rest := []) (lenOf own_pd143 rfl) rfl (by show 2 * 0 + _ ≤ _; exact Nat.le_of_eq rfl) (hb hby at_99) (fun _ _ => ⟨rfl, rfl, (by decide : 4 + 0 ≤ _), (by decide : 6 + 0 ≤ _)⟩)
          dsimp only [Pt.U, Pt.locs, Pt.cells, Pt.slots] at X54 l54 y54 z54 st54 hQ54
          subst l54 y54 z54
          obtain ⟨hv54, N54q, e54⟩ := hQ54
          have N55 := Fr.app N53 N54q
          rw [show (own_f15) = (2 : Int32) from by first | rfl | decide | simp [own_f15]] at hv54
          subst hv54
          obtain ⟨cq56, kq56, q56a, q56b, q56c⟩ := isOf hZ e54 Q47_4
          obtain ⟨v56, _, ⟨T56, L56, k56, n56⟩, -, X56, ⟨Lc56, hQ56, l56, y56, z56⟩, st56⟩ := X54.interfaceBack hx (xi := (⟨"java/util/List", "get", "(I)Ljava/lang/Object;"⟩ : MethodName)) (y := (⟨"java/util/ImmutableCollections$List12", "get", "(I)Ljava/lang/Object;"⟩ : MethodName)) hown (mvT hZ (hw _ (List.mem_of_getElem? (i := 99) rfl))) (mvT hZ (hw _ (List.mem_of_getElem? (i := 100) rfl))) (mvT hZ (hw _ (List.mem_of_getElem? (i := 101) rfl))) (mvT hZ (hw _ (List.mem_of_getElem? (i := 102) rfl))) (mvT hZ (hw _ (List.mem_of_getElem? (i := 103) rfl))) (mvT hZ (hw _ (List.mem_of_getElem? (i := 104) rfl))) (mvT hZ (hw _ (List.mem_of_getElem? (i := 105) rfl))) (mvT hZ (hw _ (List.mem_of_getElem? (i := 96) rfl))) (by decide) (backOf (W := 0) (own_v0_rm16 l Z a0 hw [] r47 x147 T47.heap n0 Z52 Q47_5) hZ (hw _ (List.mem_of_getElem? (i := 106) rfl)) (hw _ (List.mem_of_getElem? (i := 60) rfl)) (by decide) (by decide)) q56a q56b q56c (g := (mkF m 113 #[.val (.int p1), .val (.int p2), .val (.int p3), .val (.int (p3 &&& (3 : Int32))), .val (.int (0 : Int32)), .val (.int p2), .val (.ref b32), .val (.ref r47), .val (.int (0 : Int32)), .unset, .unset] [(.int (0 : Int32)), (.ref r47)])) rfl (by rw [hml]; rfl) (Steps.refl _) (argsL := [(.int (0 : Int32))]) (rest := []) (lenOf own_pd144 rfl) rfl (by show 2 * 0 + _ ≤ _; exact Nat.le_of_eq rfl) (hb hby at_113) (fun _ _ => ⟨rfl, e54, (by decide : 4 + 0 ≤ _), (by decide : 6 + 0 ≤ _)⟩)
          dsimp only [Pt.U, Pt.locs, Pt.cells, Pt.slots] at X56 l56 y56 z56 st56 hQ56
          subst l56 y56 z56
          obtain ⟨hv56, N56q, e56⟩ := hQ56
          have N57 := Fr.app N55 N56q
          rw [show (own_v0_f16 x147) = x147 from by first | rfl | decide | simp [own_v0_f16]] at hv56
          subst hv56
          obtain ⟨cq58, kq58, q58a, q58b, q58c⟩ := isOf hZ e56 Q47_4
          obtain ⟨v58, _, ⟨T58, L58, k58, n58⟩, -, X58, ⟨Lc58, hQ58, l58, y58, z58⟩, st58⟩ := X56.interfaceBack hx (xi := (⟨"java/util/List", "get", "(I)Ljava/lang/Object;"⟩ : MethodName)) (y := (⟨"java/util/ImmutableCollections$List12", "get", "(I)Ljava/lang/Object;"⟩ : MethodName)) hown (mvT hZ (hw _ (List.mem_of_getElem? (i := 99) rfl))) (mvT hZ (hw _ (List.mem_of_getElem? (i := 100) rfl))) (mvT hZ (hw _ (List.mem_of_getElem? (i := 101) rfl))) (mvT hZ (hw _ (List.mem_of_getElem? (i := 102) rfl))) (mvT hZ (hw _ (List.mem_of_getElem? (i := 103) rfl))) (mvT hZ (hw _ (List.mem_of_getElem? (i := 104) rfl))) (mvT hZ (hw _ (List.mem_of_getElem? (i := 105) rfl))) (mvT hZ (hw _ (List.mem_of_getElem? (i := 96) rfl))) (by decide) (backOf (W := 0) (own_v1_rm16 l Z a0 hw [] r47 x247 w_EMPTY T47.heap n0 Z52 O48 (Exa.ne Q47_2 (E_w_EMPTY.ext O48.2) (by decide)) Q47_6 S_EMPTY) hZ (hw _ (List.mem_of_getElem? (i := 106) rfl)) (hw _ (List.mem_of_getElem? (i := 60) rfl)) (by decide) (by decide)) q58a q58b q58c (g := (mkF m 123 #[.val (.int p1), .val (.int p2), .val (.int p3), .val (.int (p3 &&& (3 : Int32))), .val (.int (0 : Int32)), .val (.int p2), .val (.ref b32), .val (.ref r47), .val (.int (0 : Int32)), .val (.ref x147), .unset] [(.int (1 : Int32)), (.ref r47)])) rfl (by rw [hml]; rfl) (Steps.refl _) (argsL := [(.int (1 : Int32))]) (rest := []) (lenOf own_pd144 rfl) rfl (by show 2 * 0 + _ ≤ _; exact Nat.le_of_eq rfl) (hb hby at_123) (fun _ _ => ⟨rfl, e56, (by decide : 4 + 0 ≤ _), (by decide : 6 + 0 ≤ _)⟩)
          dsimp only [Pt.U, Pt.locs, Pt.cells, Pt.slots] at X58 l58 y58 z58 st58 hQ58
          subst l58 y58 z58
          obtain ⟨hv58, N58q, e58⟩ := hQ58
          have N59 := Fr.app N57 N58q
          rw [show (own_v1_f16 x247) = x247 from by first | rfl | decide | simp [own_v1_f16]] at hv58
          subst hv58
          obtain ⟨T60, X60, e60, st60⟩ := instY X58 hx hZ hown (hw _ (List.mem_of_getElem? (i := 107) rfl)) e58 (Ins.self Q47_0) (g := (mkF m 132 #[.val (.int p1), .val (.int p2), .val (.int p3), .val (.int (p3 &&& (3 : Int32))), .val (.int (0 : Int32)), .val (.int p2), .val (.ref b32), .val (.ref r47), .val (.int (0 : Int32)), .val (.ref x147), .val (.ref x247)] [(.ref x147)])) rfl rfl (hb hby at_132)
          obtain ⟨T61, X61, e61, st61⟩ := instY X60 hx hZ hown (hw _ (List.mem_of_getElem? (i := 107) rfl)) e60 (Ins.self Q47_2) (g := (mkF m 140 #[.val (.int p1), .val (.int p2), .val (.int p3), .val (.int (p3 &&& (3 : Int32))), .val (.int (0 : Int32)), .val (.int p2), .val (.ref b32), .val (.ref r47), .val (.int (0 : Int32)), .val (.ref x147), .val (.ref x247)] [(.ref x247)])) rfl rfl (hb hby at_140)
          obtain ⟨T62, X62, e62, st62⟩ := castY X61 hx hZ hown (hw _ (List.mem_of_getElem? (i := 107) rfl)) e61 (Ins.self Q47_0) (g := (mkF m 150 #[.val (.int p1), .val (.int p2), .val (.int p3), .val (.int (p3 &&& (3 : Int32))), .val (.int (0 : Int32)), .val (.int p2), .val (.ref b32), .val (.ref r47), .val (.int (0 : Int32)), .val (.ref x147), .val (.ref x247)] [(.ref x147)])) rfl rfl (hb hby at_150)
          obtain ⟨cq63, kq63, q63a, q63b, q63c⟩ := isOf hZ e62 Q47_0
          obtain ⟨v63, _, ⟨T63, L63, k63, n63⟩, -, X63, ⟨Lc63, hQ63, l63, y63, z63⟩, st63⟩ := X62.virtualBack hx (y := (⟨"java/lang/Integer", "intValue", "()I"⟩ : MethodName)) (z := (⟨"java/lang/Integer", "intValue", "()I"⟩ : MethodName)) hown (mvT hZ (hw _ (List.mem_of_getElem? (i := 109) rfl))) (mvT hZ (hw _ (List.mem_of_getElem? (i := 110) rfl))) (notFace_of_selects (args := #[]) (mvT hZ (hw _ (List.mem_of_getElem? (i := 112) rfl)))) (mvT hZ (hw _ (List.mem_of_getElem? (i := 112) rfl))) (mvT hZ (hw _ (List.mem_of_getElem? (i := 111) rfl))) (by decide) (backOf (W := 0) (own_rm17 l Z a0 hw [] x147 (0 : Int32) T47.heap n0 Z52 Q47_1) hZ (hw _ (List.mem_of_getElem? (i := 113) rfl)) (hw _ (List.mem_of_getElem? (i := 50) rfl)) (by decide) (by decide)) q63a q63c (g := (mkF m 153 #[.val (.int p1), .val (.int p2), .val (.int p3), .val (.int (p3 &&& (3 : Int32))), .val (.int (0 : Int32)), .val (.int p2), .val (.ref b32), .val (.ref r47), .val (.int (0 : Int32)), .val (.ref x147), .val (.ref x247)] [(.ref x147)])) rfl (by rw [hml]; rfl) (Steps.refl _) (argsL := []) (rest := []) (lenOf own_pd143 rfl) rfl (by show 2 * 0 + _ ≤ _; exact Nat.le_of_eq rfl) (hb hby at_153) (fun _ _ => ⟨rfl, e62, (by decide : 4 + 0 ≤ _), (by decide : 6 + 0 ≤ _)⟩)
          dsimp only [Pt.U, Pt.locs, Pt.cells, Pt.slots] at X63 l63 y63 z63 st63 hQ63
          subst l63 y63 z63
          obtain ⟨hv63, N63q, e63⟩ := hQ63
          have N64 := Fr.app N59 N63q
          rw [show (own_f17 (0 : Int32)) = (0 : Int32) from by first | rfl | decide | simp [own_f17]] at hv63
          subst hv63
          obtain ⟨T65, X65, e65, st65⟩ := castY X63 hx hZ hown (hw _ (List.mem_of_getElem? (i := 107) rfl)) e63 (Ins.self Q47_2) (g := (mkF m 163 #[.val (.int p1), .val (.int p2), .val (.int p3), .val (.int (p3 &&& (3 : Int32))), .val (.int (0 : Int32)), .val (.int p2), .val (.ref b32), .val (.ref r47), .val (.int (0 : Int32)), .val (.ref x147), .val (.ref x247)] [(.ref x247)])) rfl rfl (hb hby at_163)
          obtain ⟨cq66, kq66, q66a, q66b, q66c⟩ := isOf hZ e65 Q47_2
          obtain ⟨v66, _, ⟨T66, L66, k66, n66⟩, -, X66, ⟨Lc66, hQ66, l66, y66, z66⟩, st66⟩ := X65.virtualBack hx (y := (⟨"java/lang/Integer", "intValue", "()I"⟩ : MethodName)) (z := (⟨"java/lang/Integer", "intValue", "()I"⟩ : MethodName)) hown (mvT hZ (hw _ (List.mem_of_getElem? (i := 109) rfl))) (mvT hZ (hw _ (List.mem_of_getElem? (i := 110) rfl))) (notFace_of_selects (args := #[]) (mvT hZ (hw _ (List.mem_of_getElem? (i := 112) rfl)))) (mvT hZ (hw _ (List.mem_of_getElem? (i := 112) rfl))) (mvT hZ (hw _ (List.mem_of_getElem? (i := 111) rfl))) (by decide) (backOf (W := 0) (own_rm17 l Z a0 hw [] x247 p2 T47.heap n0 Z52 Q47_3) hZ (hw _ (List.mem_of_getElem? (i := 113) rfl)) (hw _ (List.mem_of_getElem? (i := 50) rfl)) (by decide) (by decide)) q66a q66c (g := (mkF m 166 #[.val (.int p1), .val (.int p2), .val (.int p3), .val (.int (p3 &&& (3 : Int32))), .val (.int (0 : Int32)), .val (.int p2), .val (.ref b32), .val (.ref r47), .val (.int (0 : Int32)), .val (.ref x147), .val (.ref x247)] [(.ref x247)])) rfl (by rw [hml]; rfl) (Steps.refl _) (argsL := []) (rest := []) (lenOf own_pd143 rfl) rfl (by show 2 * 0 + _ ≤ _; exact Nat.le_of_eq rfl) (hb hby at_166) (fun _ _ => ⟨rfl, e65, (by decide : 4 + 0 ≤ _), (by decide : 6 + 0 ≤ _)⟩)
          dsimp only [Pt.U, Pt.locs, Pt.cells, Pt.slots] at X66 l66 y66 z66 st66 hQ66
          subst l66 y66 z66
          obtain ⟨hv66, N66q, e66⟩ := hQ66
          have N67 := Fr.app N64 N66q
          rw [show (own_f17 p2) = p2 from by first | rfl | decide | simp [own_f17]] at hv66
          subst hv66
          obtain ⟨fs, hr, hrun, hended, hW, hsame⟩ := X66.leave (hlocks := hlk) (v := some (.int (1 : Int32))) (fun h => by rw [Bd.returns] at h; cases h)
          refine ⟨_, _, k42 _ ?_, hrun, hended, _, _, rfl, ?_, ⟨_, rfl⟩, hW, hsame.mono (by decide) (by decide)⟩
          · show Steps p.tables e below (T35.setTop (mkF m 52 #[.val (.int p1), .val (.int p2), .val (.int p3), .val (.int (p3 &&& (3 : Int32))), .val (.int (0 : Int32)), .val (.int p2), .val (.ref b32), .unset, .unset, .unset, .unset] [(.ref b32)])) _
            refine st47.trans ?_
            show Steps p.tables e below (T47.setTop (mkF m 55 #[.val (.int p1), .val (.int p2), .val (.int p3), .val (.int (p3 &&& (3 : Int32))), .val (.int (0 : Int32)), .val (.int p2), .val (.ref b32), .unset, .unset, .unset, .unset] [(.ref r47)])) _
            refine XS.astore X47.here hx rfl (hb hby at_55) rfl rfl (l' := #[.val (.int p1), .val (.int p2), .val (.int p3), .val (.int (p3 &&& (3 : Int32))), .val (.int (0 : Int32)), .val (.int p2), .val (.ref b32), .val (.ref r47), .unset, .unset, .unset]) rfl ?_
            show Steps p.tables e below (T47.setTop (mkF m 57 #[.val (.int p1), .val (.int p2), .val (.int p3), .val (.int (p3 &&& (3 : Int32))), .val (.int (0 : Int32)), .val (.int p2), .val (.ref b32), .val (.ref r47), .unset, .unset, .unset] [])) _
            refine XS.iload X47.here hx rfl (hb hby at_57) rfl ?_
            show Steps p.tables e below (T47.setTop (mkF m 59 #[.val (.int p1), .val (.int p2), .val (.int p3), .val (.int (p3 &&& (3 : Int32))), .val (.int (0 : Int32)), .val (.int p2), .val (.ref b32), .val (.ref r47), .unset, .unset, .unset] [(.int (0 : Int32))])) _
            refine XS.ifNo X47.here hx rfl (hb hby at_59) rfl ((if0 _ _).trans (teq (by decide : (0 : Int32) = (0 : Int32))).2) ?_
            show Steps p.tables e below (T47.setTop (mkF m 62 #[.val (.int p1), .val (.int p2), .val (.int p3), .val (.int (p3 &&& (3 : Int32))), .val (.int (0 : Int32)), .val (.int p2), .val (.ref b32), .val (.ref r47), .unset, .unset, .unset] [])) _
            refine XS.iload X47.here hx rfl (hb hby at_62) rfl ?_
            show Steps p.tables e below (T47.setTop (mkF m 64 #[.val (.int p1), .val (.int p2), .val (.int p3), .val (.int (p3 &&& (3 : Int32))), .val (.int (0 : Int32)), .val (.int p2), .val (.ref b32), .val (.ref r47), .unset, .unset, .unset] [(.int p2)])) _
            refine X47.ldcInt hx hown (mvT hZ (hw _ (List.mem_of_getElem? (i := 0) rfl))) (g := (mkF m 64 #[.val (.int p1), .val (.int p2), .val (.int p3), .val (.int (p3 &&& (3 : Int32))), .val (.int (0 : Int32)), .val (.int p2), .val (.ref b32), .val (.ref r47), .unset, .unset, .unset] [(.int p2)])) rfl (hb hby at_64) _ ?_
            show Steps p.tables e below (T47.setTop (mkF m 66 #[.val (.int p1), .val (.int p2), .val (.int p3), .val (.int (p3 &&& (3 : Int32))), .val (.int (0 : Int32)), .val (.int p2), .val (.ref b32), .val (.ref r47), .unset, .unset, .unset] [(.int (2147483647 : Int32)), (.int p2)])) _
            refine XS.icmpYes X47.here hx rfl (pc0 := 66) (pc' := 73) rfl (hb hby at_66) rfl (feq hc4).2 (by decide) (by decide) ?_
            show Steps p.tables e below (T47.setTop (mkF m 73 #[.val (.int p1), .val (.int p2), .val (.int p3), .val (.int (p3 &&& (3 : Int32))), .val (.int (0 : Int32)), .val (.int p2), .val (.ref b32), .val (.ref r47), .unset, .unset, .unset] [])) _
            refine XS.iconst X47.here hx rfl (hb hby at_73) ?_
            show Steps p.tables e below (T47.setTop (mkF m 74 #[.val (.int p1), .val (.int p2), .val (.int p3), .val (.int (p3 &&& (3 : Int32))), .val (.int (0 : Int32)), .val (.int p2), .val (.ref b32), .val (.ref r47), .unset, .unset, .unset] [(.int (0 : Int32))])) _
            refine XS.istore X47.here hx rfl (hb hby at_74) rfl (l' := #[.val (.int p1), .val (.int p2), .val (.int p3), .val (.int (p3 &&& (3 : Int32))), .val (.int (0 : Int32)), .val (.int p2), .val (.ref b32), .val (.ref r47), .val (.int (0 : Int32)), .unset, .unset]) rfl ?_
            show Steps p.tables e below (T47.setTop (mkF m 76 #[.val (.int p1), .val (.int p2), .val (.int p3), .val (.int (p3 &&& (3 : Int32))), .val (.int (0 : Int32)), .val (.int p2), .val (.ref b32), .val (.ref r47), .val (.int (0 : Int32)), .unset, .unset] [])) _
            refine XS.iload X47.here hx rfl (hb hby at_76) rfl ?_
            show Steps p.tables e below (T47.setTop (mkF m 78 #[.val (.int p1), .val (.int p2), .val (.int p3), .val (.int (p3 &&& (3 : Int32))), .val (.int (0 : Int32)), .val (.int p2), .val (.ref b32), .val (.ref r47), .val (.int (0 : Int32)), .unset, .unset] [(.int (0 : Int32))])) _
            refine XS.ifYes X47.here hx rfl (pc0 := 78) (pc' := 97) rfl (hb hby at_78) rfl ((if0 _ _).trans (teq (by decide : (0 : Int32) = (0 : Int32))).1) (by decide) (by decide) ?_
            show Steps p.tables e below (T47.setTop (mkF m 97 #[.val (.int p1), .val (.int p2), .val (.int p3), .val (.int (p3 &&& (3 : Int32))), .val (.int (0 : Int32)), .val (.int p2), .val (.ref b32), .val (.ref r47), .val (.int (0 : Int32)), .unset, .unset] [])) _
            refine XS.aload X47.here hx rfl (hb hby at_97) rfl rfl ?_
            show Steps p.tables e below (T47.setTop (mkF m 99 #[.val (.int p1), .val (.int p2), .val (.int p3), .val (.int (p3 &&& (3 : Int32))), .val (.int (0 : Int32)), .val (.int p2), .val (.ref b32), .val (.ref r47), .val (.int (0 : Int32)), .unset, .unset] [(.ref r47)])) _
            refine st54.trans ?_
            show Steps p.tables e below (T54.setTop (mkF m 104 #[.val (.int p1), .val (.int p2), .val (.int p3), .val (.int (p3 &&& (3 : Int32))), .val (.int (0 : Int32)), .val (.int p2), .val (.ref b32), .val (.ref r47), .val (.int (0 : Int32)), .unset, .unset] [(.int (2 : Int32))])) _
            refine XS.iconst X54.here hx rfl (hb hby at_104) ?_
            show Steps p.tables e below (T54.setTop (mkF m 105 #[.val (.int p1), .val (.int p2), .val (.int p3), .val (.int (p3 &&& (3 : Int32))), .val (.int (0 : Int32)), .val (.int p2), .val (.ref b32), .val (.ref r47), .val (.int (0 : Int32)), .unset, .unset] [(.int (2 : Int32)), (.int (2 : Int32))])) _
            refine XS.icmpYes X54.here hx rfl (pc0 := 105) (pc' := 110) rfl (hb hby at_105) rfl (teq (by decide : (2 : Int32) = (2 : Int32))).1 (by decide) (by decide) ?_
            show Steps p.tables e below (T54.setTop (mkF m 110 #[.val (.int p1), .val (.int p2), .val (.int p3), .val (.int (p3 &&& (3 : Int32))), .val (.int (0 : Int32)), .val (.int p2), .val (.ref b32), .val (.ref r47), .val (.int (0 : Int32)), .unset, .unset] [])) _
            refine XS.aload X54.here hx rfl (hb hby at_110) rfl rfl ?_
            show Steps p.tables e below (T54.setTop (mkF m 112 #[.val (.int p1), .val (.int p2), .val (.int p3), .val (.int (p3 &&& (3 : Int32))), .val (.int (0 : Int32)), .val (.int p2), .val (.ref b32), .val (.ref r47), .val (.int (0 : Int32)), .unset, .unset] [(.ref r47)])) _
            refine XS.iconst X54.here hx rfl (hb hby at_112) ?_
            show Steps p.tables e below (T54.setTop (mkF m 113 #[.val (.int p1), .val (.int p2), .val (.int p3), .val (.int (p3 &&& (3 : Int32))), .val (.int (0 : Int32)), .val (.int p2), .val (.ref b32), .val (.ref r47), .val (.int (0 : Int32)), .unset, .unset] [(.int (0 : Int32)), (.ref r47)])) _
            refine st56.trans ?_
            show Steps p.tables e below (T56.setTop (mkF m 118 #[.val (.int p1), .val (.int p2), .val (.int p3), .val (.int (p3 &&& (3 : Int32))), .val (.int (0 : Int32)), .val (.int p2), .val (.ref b32), .val (.ref r47), .val (.int (0 : Int32)), .unset, .unset] [(.ref x147)])) _
            refine XS.astore X56.here hx rfl (hb hby at_118) rfl rfl (l' := #[.val (.int p1), .val (.int p2), .val (.int p3), .val (.int (p3 &&& (3 : Int32))), .val (.int (0 : Int32)), .val (.int p2), .val (.ref b32), .val (.ref r47), .val (.int (0 : Int32)), .val (.ref x147), .unset]) rfl ?_
            show Steps p.tables e below (T56.setTop (mkF m 120 #[.val (.int p1), .val (.int p2), .val (.int p3), .val (.int (p3 &&& (3 : Int32))), .val (.int (0 : Int32)), .val (.int p2), .val (.ref b32), .val (.ref r47), .val (.int (0 : Int32)), .val (.ref x147), .unset] [])) _
            refine XS.aload X56.here hx rfl (hb hby at_120) rfl rfl ?_
            show Steps p.tables e below (T56.setTop (mkF m 122 #[.val (.int p1), .val (.int p2), .val (.int p3), .val (.int (p3 &&& (3 : Int32))), .val (.int (0 : Int32)), .val (.int p2), .val (.ref b32), .val (.ref r47), .val (.int (0 : Int32)), .val (.ref x147), .unset] [(.ref r47)])) _
            refine XS.iconst X56.here hx rfl (hb hby at_122) ?_
            show Steps p.tables e below (T56.setTop (mkF m 123 #[.val (.int p1), .val (.int p2), .val (.int p3), .val (.int (p3 &&& (3 : Int32))), .val (.int (0 : Int32)), .val (.int p2), .val (.ref b32), .val (.ref r47), .val (.int (0 : Int32)), .val (.ref x147), .unset] [(.int (1 : Int32)), (.ref r47)])) _
            refine st58.trans ?_
            show Steps p.tables e below (T58.setTop (mkF m 128 #[.val (.int p1), .val (.int p2), .val (.int p3), .val (.int (p3 &&& (3 : Int32))), .val (.int (0 : Int32)), .val (.int p2), .val (.ref b32), .val (.ref r47), .val (.int (0 : Int32)), .val (.ref x147), .unset] [(.ref x247)])) _
            refine XS.astore X58.here hx rfl (hb hby at_128) rfl rfl (l' := #[.val (.int p1), .val (.int p2), .val (.int p3), .val (.int (p3 &&& (3 : Int32))), .val (.int (0 : Int32)), .val (.int p2), .val (.ref b32), .val (.ref r47), .val (.int (0 : Int32)), .val (.ref x147), .val (.ref x247)]) rfl ?_
            show Steps p.tables e below (T58.setTop (mkF m 130 #[.val (.int p1), .val (.int p2), .val (.int p3), .val (.int (p3 &&& (3 : Int32))), .val (.int (0 : Int32)), .val (.int p2), .val (.ref b32), .val (.ref r47), .val (.int (0 : Int32)), .val (.ref x147), .val (.ref x247)] [])) _
            refine XS.aload X58.here hx rfl (hb hby at_130) rfl rfl ?_
            show Steps p.tables e below (T58.setTop (mkF m 132 #[.val (.int p1), .val (.int p2), .val (.int p3), .val (.int (p3 &&& (3 : Int32))), .val (.int (0 : Int32)), .val (.int p2), .val (.ref b32), .val (.ref r47), .val (.int (0 : Int32)), .val (.ref x147), .val (.ref x247)] [(.ref x147)])) _
            refine st60 _ ?_
            show Steps p.tables e below (T60.setTop (mkF m 135 #[.val (.int p1), .val (.int p2), .val (.int p3), .val (.int (p3 &&& (3 : Int32))), .val (.int (0 : Int32)), .val (.int p2), .val (.ref b32), .val (.ref r47), .val (.int (0 : Int32)), .val (.ref x147), .val (.ref x247)] [(.int (1 : Int32))])) _
            refine XS.ifNo X60.here hx rfl (hb hby at_135) rfl ((if0 _ _).trans (feq (by decide : ¬ ((1 : Int32) = (0 : Int32)))).1) ?_
            show Steps p.tables e below (T60.setTop (mkF m 138 #[.val (.int p1), .val (.int p2), .val (.int p3), .val (.int (p3 &&& (3 : Int32))), .val (.int (0 : Int32)), .val (.int p2), .val (.ref b32), .val (.ref r47), .val (.int (0 : Int32)), .val (.ref x147), .val (.ref x247)] [])) _
            refine XS.aload X60.here hx rfl (hb hby at_138) rfl rfl ?_
            show Steps p.tables e below (T60.setTop (mkF m 140 #[.val (.int p1), .val (.int p2), .val (.int p3), .val (.int (p3 &&& (3 : Int32))), .val (.int (0 : Int32)), .val (.int p2), .val (.ref b32), .val (.ref r47), .val (.int (0 : Int32)), .val (.ref x147), .val (.ref x247)] [(.ref x247)])) _
            refine st61 _ ?_
            show Steps p.tables e below (T61.setTop (mkF m 143 #[.val (.int p1), .val (.int p2), .val (.int p3), .val (.int (p3 &&& (3 : Int32))), .val (.int (0 : Int32)), .val (.int p2), .val (.ref b32), .val (.ref r47), .val (.int (0 : Int32)), .val (.ref x147), .val (.ref x247)] [(.int (1 : Int32))])) _
            refine XS.ifYes X61.here hx rfl (pc0 := 143) (pc' := 148) rfl (hb hby at_143) rfl ((if0 _ _).trans (feq (by decide : ¬ ((1 : Int32) = (0 : Int32)))).2) (by decide) (by decide) ?_
            show Steps p.tables e below (T61.setTop (mkF m 148 #[.val (.int p1), .val (.int p2), .val (.int p3), .val (.int (p3 &&& (3 : Int32))), .val (.int (0 : Int32)), .val (.int p2), .val (.ref b32), .val (.ref r47), .val (.int (0 : Int32)), .val (.ref x147), .val (.ref x247)] [])) _
            refine XS.aload X61.here hx rfl (hb hby at_148) rfl rfl ?_
            show Steps p.tables e below (T61.setTop (mkF m 150 #[.val (.int p1), .val (.int p2), .val (.int p3), .val (.int (p3 &&& (3 : Int32))), .val (.int (0 : Int32)), .val (.int p2), .val (.ref b32), .val (.ref r47), .val (.int (0 : Int32)), .val (.ref x147), .val (.ref x247)] [(.ref x147)])) _
            refine st62 _ ?_
            show Steps p.tables e below (T62.setTop (mkF m 153 #[.val (.int p1), .val (.int p2), .val (.int p3), .val (.int (p3 &&& (3 : Int32))), .val (.int (0 : Int32)), .val (.int p2), .val (.ref b32), .val (.ref r47), .val (.int (0 : Int32)), .val (.ref x147), .val (.ref x247)] [(.ref x147)])) _
            refine st63.trans ?_
            show Steps p.tables e below (T63.setTop (mkF m 156 #[.val (.int p1), .val (.int p2), .val (.int p3), .val (.int (p3 &&& (3 : Int32))), .val (.int (0 : Int32)), .val (.int p2), .val (.ref b32), .val (.ref r47), .val (.int (0 : Int32)), .val (.ref x147), .val (.ref x247)] [(.int (0 : Int32))])) _
            refine XS.iload X63.here hx rfl (hb hby at_156) rfl ?_
            show Steps p.tables e below (T63.setTop (mkF m 158 #[.val (.int p1), .val (.int p2), .val (.int p3), .val (.int (p3 &&& (3 : Int32))), .val (.int (0 : Int32)), .val (.int p2), .val (.ref b32), .val (.ref r47), .val (.int (0 : Int32)), .val (.ref x147), .val (.ref x247)] [(.int (0 : Int32)), (.int (0 : Int32))])) _
            refine XS.icmpNo X63.here hx rfl (hb hby at_158) rfl (teq (by decide : (0 : Int32) = (0 : Int32))).2 ?_
            show Steps p.tables e below (T63.setTop (mkF m 161 #[.val (.int p1), .val (.int p2), .val (.int p3), .val (.int (p3 &&& (3 : Int32))), .val (.int (0 : Int32)), .val (.int p2), .val (.ref b32), .val (.ref r47), .val (.int (0 : Int32)), .val (.ref x147), .val (.ref x247)] [])) _
            refine XS.aload X63.here hx rfl (hb hby at_161) rfl rfl ?_
            show Steps p.tables e below (T63.setTop (mkF m 163 #[.val (.int p1), .val (.int p2), .val (.int p3), .val (.int (p3 &&& (3 : Int32))), .val (.int (0 : Int32)), .val (.int p2), .val (.ref b32), .val (.ref r47), .val (.int (0 : Int32)), .val (.ref x147), .val (.ref x247)] [(.ref x247)])) _
            refine st65 _ ?_
            show Steps p.tables e below (T65.setTop (mkF m 166 #[.val (.int p1), .val (.int p2), .val (.int p3), .val (.int (p3 &&& (3 : Int32))), .val (.int (0 : Int32)), .val (.int p2), .val (.ref b32), .val (.ref r47), .val (.int (0 : Int32)), .val (.ref x147), .val (.ref x247)] [(.ref x247)])) _
            refine st66.trans ?_
            show Steps p.tables e below (T66.setTop (mkF m 169 #[.val (.int p1), .val (.int p2), .val (.int p3), .val (.int (p3 &&& (3 : Int32))), .val (.int (0 : Int32)), .val (.int p2), .val (.ref b32), .val (.ref r47), .val (.int (0 : Int32)), .val (.ref x147), .val (.ref x247)] [(.int p2)])) _
            refine XS.iload X66.here hx rfl (hb hby at_169) rfl ?_
            show Steps p.tables e below (T66.setTop (mkF m 171 #[.val (.int p1), .val (.int p2), .val (.int p3), .val (.int (p3 &&& (3 : Int32))), .val (.int (0 : Int32)), .val (.int p2), .val (.ref b32), .val (.ref r47), .val (.int (0 : Int32)), .val (.ref x147), .val (.ref x247)] [(.int p2), (.int p2)])) _
            refine XS.icmpNo X66.here hx rfl (hb hby at_171) rfl (teq (rfl : p2 = p2)).2 ?_
            show Steps p.tables e below (T66.setTop (mkF m 174 #[.val (.int p1), .val (.int p2), .val (.int p3), .val (.int (p3 &&& (3 : Int32))), .val (.int (0 : Int32)), .val (.int p2), .val (.ref b32), .val (.ref r47), .val (.int (0 : Int32)), .val (.ref x147), .val (.ref x247)] [])) _
            refine XS.iconst X66.here hx rfl (hb hby at_174) ?_
            show Steps p.tables e below (T66.setTop (mkF m 175 #[.val (.int p1), .val (.int p2), .val (.int p3), .val (.int (p3 &&& (3 : Int32))), .val (.int (0 : Int32)), .val (.int p2), .val (.ref b32), .val (.ref r47), .val (.int (0 : Int32)), .val (.ref x147), .val (.ref x247)] [(.int (1 : Int32))])) _
            refine XS.goto X66.here hx rfl (pc0 := 175) (pc' := 179) rfl (hb hby at_175) (by decide) (by decide) ?_
            show Steps p.tables e below (T66.setTop (mkF m 179 #[.val (.int p1), .val (.int p2), .val (.int p3), .val (.int (p3 &&& (3 : Int32))), .val (.int (0 : Int32)), .val (.int p2), .val (.ref b32), .val (.ref r47), .val (.int (0 : Int32)), .val (.ref x147), .val (.ref x247)] [(.int (1 : Int32))])) _
            exact retN X66 hx (t := .boolean) Bd.returns (by simp) (hb hby at_179) hr
          · show own_Q0 Z p1 p2 p3 clc w_EMPTY_LIST w_elements_w_EMPTY_LIST k_w_elements_w_EMPTY_LIST w_cache w_EMPTY h0 n0 _ T66.heap _
            rw [e66]
            exact ⟨(by rw [own_f0, if_neg hc1, if_pos hc2, if_neg hc3, if_neg hc4]), N67⟩
    ·
      have k68 : ∀ t, Steps p.tables e below (s₁.setTop (mkF m 26 #[.val (.int p1), .val (.int p2), .val (.int p3), .val (.int (p3 &&& (3 : Int32))), .val (.int p1), .unset, .unset, .unset, .unset, .unset, .unset] [(.int (2 : Int32)), (.int (p3 &&& (3 : Int32)))])) t → Steps p.tables e below (s₁.setTop (entryFrame m #[(.int p1), (.int p2), (.int p3)] maxLocals)) t := by
        intro t kt
        refine k16 t ?_
        show Steps p.tables e below (s₁.setTop (mkF m 10 #[.val (.int p1), .val (.int p2), .val (.int p3), .val (.int (p3 &&& (3 : Int32))), .unset, .unset, .unset, .unset, .unset, .unset, .unset] [(.int (1 : Int32)), (.int (p3 &&& (3 : Int32)))])) _
        refine XS.icmpYes X0.here hx rfl (pc0 := 10) (pc' := 17) rfl (hb hby at_10) rfl (feq hc2).2 (by decide) (by decide) ?_
        show Steps p.tables e below (s₁.setTop (mkF m 17 #[.val (.int p1), .val (.int p2), .val (.int p3), .val (.int (p3 &&& (3 : Int32))), .unset, .unset, .unset, .unset, .unset, .unset, .unset] [])) _
        refine XS.iloadN X0.here hx rfl (hb hby at_17) rfl ?_
        show Steps p.tables e below (s₁.setTop (mkF m 18 #[.val (.int p1), .val (.int p2), .val (.int p3), .val (.int (p3 &&& (3 : Int32))), .unset, .unset, .unset, .unset, .unset, .unset, .unset] [(.int p1)])) _
        refine XS.istore X0.here hx rfl (hb hby at_18) rfl (l' := #[.val (.int p1), .val (.int p2), .val (.int p3), .val (.int (p3 &&& (3 : Int32))), .val (.int p1), .unset, .unset, .unset, .unset, .unset, .unset]) rfl ?_
        show Steps p.tables e below (s₁.setTop (mkF m 20 #[.val (.int p1), .val (.int p2), .val (.int p3), .val (.int (p3 &&& (3 : Int32))), .val (.int p1), .unset, .unset, .unset, .unset, .unset, .unset] [])) _
        refine XS.iloadN X0.here hx rfl (hb hby at_20) rfl ?_
        show Steps p.tables e below (s₁.setTop (mkF m 21 #[.val (.int p1), .val (.int p2), .val (.int p3), .val (.int (p3 &&& (3 : Int32))), .val (.int p1), .unset, .unset, .unset, .unset, .unset, .unset] [(.int (p3 &&& (3 : Int32)))])) _
        refine XS.ifNo X0.here hx rfl (hb hby at_21) rfl ((if0 _ _).trans (feq hc1).1) ?_
        show Steps p.tables e below (s₁.setTop (mkF m 24 #[.val (.int p1), .val (.int p2), .val (.int p3), .val (.int (p3 &&& (3 : Int32))), .val (.int p1), .unset, .unset, .unset, .unset, .unset, .unset] [])) _
        refine XS.iloadN X0.here hx rfl (hb hby at_24) rfl ?_
        show Steps p.tables e below (s₁.setTop (mkF m 25 #[.val (.int p1), .val (.int p2), .val (.int p3), .val (.int (p3 &&& (3 : Int32))), .val (.int p1), .unset, .unset, .unset, .unset, .unset, .unset] [(.int (p3 &&& (3 : Int32)))])) _
        refine XS.iconst X0.here hx rfl (hb hby at_25) ?_
        exact kt
      by_cases hc5 : (p3 &&& (3 : Int32)) = (2 : Int32)
      ·
        obtain ⟨T69, h69, X69, e69, E69, A69, D69, -, st69⟩ := newO X0 hx hZ hown (hw _ (List.mem_of_getElem? (i := 1) rfl)) (hw _ (List.mem_of_getElem? (i := 2) rfl)) (hw _ (List.mem_of_getElem? (i := 3) rfl)) e0 (g := (mkF m 37 #[.val (.int p1), .val (.int p2), .val (.int p3), .val (.int (p3 &&& (3 : Int32))), .val (.int p1), .val (.int (2147483647 : Int32)), .unset, .unset, .unset, .unset, .unset] [])) rfl (hb hby at_37) (by decide) (by decide)
        obtain ⟨b69, g69⟩ : ∃ z, z = h0.size := ⟨_, rfl⟩
        rw [← g69] at A69 D69 st69
        have ne_w_EMPTY_LIST_b69 : w_EMPTY_LIST ≠ b69 := Nat.ne_of_lt (Nat.lt_of_lt_of_le (F_elements_w_EMPTY_LIST.ext O0.2).lt (Nat.le_of_eq g69.symm))
        have ne_w_elements_w_EMPTY_LIST_b69 : w_elements_w_EMPTY_LIST ≠ b69 := Nat.ne_of_lt (Nat.lt_of_lt_of_le (V_w_elements_w_EMPTY_LIST.ext O0.2).lt (Nat.le_of_eq g69.symm))
        have ne_w_EMPTY_b69 : w_EMPTY ≠ b69 := Nat.ne_of_lt (Nat.lt_of_lt_of_le (E_w_EMPTY.ext O0.2).lt (Nat.le_of_eq g69.symm))
        have g_b69 : n0 ≤ b69 := Nat.le_trans Z0 (Nat.le_of_eq g69.symm)
        have O70 := O0.ext E69
        have Z71 := Nat.le_trans Z0 E69.1
        have F_first_b69 : Fld Z h69 b69 "com/example/fetch_plan/fetchplan/Page" "first" "I" (.int (0 : Int32)) := D69 (Or.inr (hw _ (List.mem_of_getElem? (i := 16) rfl))) (ty := .int) (by decide)
        have F_max_b69 : Fld Z h69 b69 "com/example/fetch_plan/fetchplan/Page" "max" "I" (.int (0 : Int32)) := D69 (Or.inr (hw _ (List.mem_of_getElem? (i := 18) rfl))) (ty := .int) (by decide)
        obtain ⟨v72, _, ⟨T72, L72, k72, n72⟩, -, X72, ⟨Lc72, hQ72, l72, y72, z72⟩, st72⟩ := X69.specialBack hx (y := (⟨"com/example/fetch_plan/fetchplan/Page", "<init>", "(II)V"⟩ : MethodName)) rfl hown (mvT hZ (hw _ (List.mem_of_getElem? (i := 4) rfl))) (mvT hZ (hw _ (List.mem_of_getElem? (i := 5) rfl))) (mvT hZ (hw _ (List.mem_of_getElem? (i := 6) rfl))) (by decide) (backOf (W := 1) (own_rm1 l Z a0 hw [] b69 p1 (2147483647 : Int32) (0 : Int32) (0 : Int32) h69 n0 Z71 A69 F_first_b69 g_b69 F_max_b69) hZ (hw _ (List.mem_of_getElem? (i := 6) rfl)) (hw _ (List.mem_of_getElem? (i := 3) rfl)) (by decide) (by decide)) (g := (mkF m 45 #[.val (.int p1), .val (.int p2), .val (.int p3), .val (.int (p3 &&& (3 : Int32))), .val (.int p1), .val (.int (2147483647 : Int32)), .unset, .unset, .unset, .unset, .unset] [(.int (2147483647 : Int32)), (.int p1), (.ref b69), (.ref b69)])) rfl (by rw [hml]; rfl) (Steps.refl _) (a := b69) (argsL := [(.int p1), (.int (2147483647 : Int32))]) (rest := [(.ref b69)]) (lenOf own_pd142 rfl) rfl (by show 2 * 0 + _ ≤ _; exact Nat.le_of_eq rfl) (hb hby at_45) (fun _ _ => ⟨rfl, e69, (by decide : 1 + 0 ≤ _), (by decide : 2 + 0 ≤ _)⟩)
        dsimp only [Pt.U, Pt.locs, Pt.cells, Pt.slots] at X72 l72 y72 z72 st72 hQ72
        subst l72 y72 z72
        obtain ⟨rfl, N72q, K72, Q72_0, Q72_1, Q72_2⟩ := hQ72
        have O73 := O70.keep K72 (allS g_b69 all0)
        have f74 := A69.keep K72
        have Z77 := Nat.le_trans Z71 K72.1
        have N78 := Fr.app N0 N72q
        have k79 : ∀ t, Steps p.tables e below (T72.setTop (mkF m 52 #[.val (.int p1), .val (.int p2), .val (.int p3), .val (.int (p3 &&& (3 : Int32))), .val (.int p1), .val (.int (2147483647 : Int32)), .val (.ref b69), .unset, .unset, .unset, .unset] [(.ref b69)])) t → Steps p.tables e below (s₁.setTop (entryFrame m #[(.int p1), (.int p2), (.int p3)] maxLocals)) t := by
          intro t kt
          refine k68 t ?_
          show Steps p.tables e below (s₁.setTop (mkF m 26 #[.val (.int p1), .val (.int p2), .val (.int p3), .val (.int (p3 &&& (3 : Int32))), .val (.int p1), .unset, .unset, .unset, .unset, .unset, .unset] [(.int (2 : Int32)), (.int (p3 &&& (3 : Int32)))])) _
          refine XS.icmpNo X0.here hx rfl (hb hby at_26) rfl (teq hc5).2 ?_
          show Steps p.tables e below (s₁.setTop (mkF m 29 #[.val (.int p1), .val (.int p2), .val (.int p3), .val (.int (p3 &&& (3 : Int32))), .val (.int p1), .unset, .unset, .unset, .unset, .unset, .unset] [])) _
          refine X0.ldcInt hx hown (mvT hZ (hw _ (List.mem_of_getElem? (i := 0) rfl))) (g := (mkF m 29 #[.val (.int p1), .val (.int p2), .val (.int p3), .val (.int (p3 &&& (3 : Int32))), .val (.int p1), .unset, .unset, .unset, .unset, .unset, .unset] [])) rfl (hb hby at_29) _ ?_
          show Steps p.tables e below (s₁.setTop (mkF m 31 #[.val (.int p1), .val (.int p2), .val (.int p3), .val (.int (p3 &&& (3 : Int32))), .val (.int p1), .unset, .unset, .unset, .unset, .unset, .unset] [(.int (2147483647 : Int32))])) _
          refine XS.goto X0.here hx rfl (pc0 := 31) (pc' := 35) rfl (hb hby at_31) (by decide) (by decide) ?_
          show Steps p.tables e below (s₁.setTop (mkF m 35 #[.val (.int p1), .val (.int p2), .val (.int p3), .val (.int (p3 &&& (3 : Int32))), .val (.int p1), .unset, .unset, .unset, .unset, .unset, .unset] [(.int (2147483647 : Int32))])) _
          refine XS.istore X0.here hx rfl (hb hby at_35) rfl (l' := #[.val (.int p1), .val (.int p2), .val (.int p3), .val (.int (p3 &&& (3 : Int32))), .val (.int p1), .val (.int (2147483647 : Int32)), .unset, .unset, .unset, .unset, .unset]) rfl ?_
          show Steps p.tables e below (s₁.setTop (mkF m 37 #[.val (.int p1), .val (.int p2), .val (.int p3), .val (.int (p3 &&& (3 : Int32))), .val (.int p1), .val (.int (2147483647 : Int32)), .unset, .unset, .unset, .unset, .unset] [])) _
          refine st69 _ ?_
          show Steps p.tables e below (T69.setTop (mkF m 40 #[.val (.int p1), .val (.int p2), .val (.int p3), .val (.int (p3 &&& (3 : Int32))), .val (.int p1), .val (.int (2147483647 : Int32)), .unset, .unset, .unset, .unset, .unset] [(.ref b69)])) _
          refine XS.dup X69.here hx rfl (hb hby at_40) rfl rfl ?_
          show Steps p.tables e below (T69.setTop (mkF m 41 #[.val (.int p1), .val (.int p2), .val (.int p3), .val (.int (p3 &&& (3 : Int32))), .val (.int p1), .val (.int (2147483647 : Int32)), .unset, .unset, .unset, .unset, .unset] [(.ref b69), (.ref b69)])) _
          refine XS.iload X69.here hx rfl (hb hby at_41) rfl ?_
          show Steps p.tables e below (T69.setTop (mkF m 43 #[.val (.int p1), .val (.int p2), .val (.int p3), .val (.int (p3 &&& (3 : Int32))), .val (.int p1), .val (.int (2147483647 : Int32)), .unset, .unset, .unset, .unset, .unset] [(.int p1), (.ref b69), (.ref b69)])) _
          refine XS.iload X69.here hx rfl (hb hby at_43) rfl ?_
          show Steps p.tables e below (T69.setTop (mkF m 45 #[.val (.int p1), .val (.int p2), .val (.int p3), .val (.int (p3 &&& (3 : Int32))), .val (.int p1), .val (.int (2147483647 : Int32)), .unset, .unset, .unset, .unset, .unset] [(.int (2147483647 : Int32)), (.int p1), (.ref b69), (.ref b69)])) _
          refine st72.trans ?_
          show Steps p.tables e below (T72.setTop (mkF m 48 #[.val (.int p1), .val (.int p2), .val (.int p3), .val (.int (p3 &&& (3 : Int32))), .val (.int p1), .val (.int (2147483647 : Int32)), .unset, .unset, .unset, .unset, .unset] [(.ref b69)])) _
          refine XS.astore X72.here hx rfl (hb hby at_48) rfl rfl (l' := #[.val (.int p1), .val (.int p2), .val (.int p3), .val (.int (p3 &&& (3 : Int32))), .val (.int p1), .val (.int (2147483647 : Int32)), .val (.ref b69), .unset, .unset, .unset, .unset]) rfl ?_
          show Steps p.tables e below (T72.setTop (mkF m 50 #[.val (.int p1), .val (.int p2), .val (.int p3), .val (.int (p3 &&& (3 : Int32))), .val (.int p1), .val (.int (2147483647 : Int32)), .val (.ref b69), .unset, .unset, .unset, .unset] [])) _
          refine XS.aload X72.here hx rfl (hb hby at_50) rfl rfl ?_
          exact kt
        by_cases hc6 : p1 = (0 : Int32)
        ·
          obtain ⟨cq80, kq80, q80a, q80b, q80c⟩ := isOf hZ rfl Q72_0
          obtain ⟨v80, _, ⟨T80, L80, k80, n80⟩, -, X80, ⟨Lc80, hQ80, l80, y80, z80⟩, st80⟩ := X72.virtualBack hx (y := (⟨"com/example/fetch_plan/fetchplan/Page", "parameters", "()Ljava/util/List;"⟩ : MethodName)) (z := (⟨"com/example/fetch_plan/fetchplan/Page", "parameters", "()Ljava/util/List;"⟩ : MethodName)) hown (mvT hZ (hw _ (List.mem_of_getElem? (i := 19) rfl))) (mvT hZ (hw _ (List.mem_of_getElem? (i := 20) rfl))) (notFace_of_selects (args := #[]) (mvT hZ (hw _ (List.mem_of_getElem? (i := 22) rfl)))) (mvT hZ (hw _ (List.mem_of_getElem? (i := 22) rfl))) (mvT hZ (hw _ (List.mem_of_getElem? (i := 21) rfl))) (by decide) (backOf (W := 0) (own_vA_rm4 l Z a0 hw [] b69 p1 (2147483647 : Int32) w_EMPTY_LIST T72.heap n0 Z77 O73 hc6 (by decide : (2147483647 : Int32) = (2147483647 : Int32)) Q72_1 Q72_2 Q72_0 S_EMPTY_LIST) hZ (hw _ (List.mem_of_getElem? (i := 23) rfl)) (hw _ (List.mem_of_getElem? (i := 3) rfl)) (by decide) (by decide)) q80a q80c (g := (mkF m 52 #[.val (.int p1), .val (.int p2), .val (.int p3), .val (.int (p3 &&& (3 : Int32))), .val (.int p1), .val (.int (2147483647 : Int32)), .val (.ref b69), .unset, .unset, .unset, .unset] [(.ref b69)])) rfl (by rw [hml]; rfl) (Steps.refl _) (argsL := []) (rest := []) (lenOf own_pd101 rfl) rfl (by show 2 * 0 + _ ≤ _; exact Nat.le_of_eq rfl) (hb hby at_52) (fun _ _ => ⟨rfl, rfl, (by decide : 1 + 0 ≤ _), (by decide : 2 + 0 ≤ _)⟩)
          dsimp only [Pt.U, Pt.locs, Pt.cells, Pt.slots] at X80 l80 y80 z80 st80 hQ80
          subst l80 y80 z80
          obtain ⟨hv80, N80q, e80⟩ := hQ80
          have N81 := Fr.app N78 N80q
          rw [show (own_vA_f4 w_EMPTY_LIST) = w_EMPTY_LIST from by first | rfl | decide | simp [own_vA_f4]] at hv80
          subst hv80
          obtain ⟨cq82, kq82, q82a, q82b, q82c⟩ := isOf hZ e80 (E_w_EMPTY_LIST.ext O73.2)
          obtain ⟨v82, _, ⟨T82, L82, k82, n82⟩, -, X82, ⟨Lc82, hQ82, l82, y82, z82⟩, st82⟩ := X80.interfaceBack hx (xi := (⟨"java/util/List", "size", "()I"⟩ : MethodName)) (y := (⟨"java/util/ImmutableCollections$ListN", "size", "()I"⟩ : MethodName)) hown (mvT hZ (hw _ (List.mem_of_getElem? (i := 36) rfl))) (mvT hZ (hw _ (List.mem_of_getElem? (i := 37) rfl))) (mvT hZ (hw _ (List.mem_of_getElem? (i := 38) rfl))) (mvT hZ (hw _ (List.mem_of_getElem? (i := 39) rfl))) (mvT hZ (hw _ (List.mem_of_getElem? (i := 40) rfl))) (mvT hZ (hw _ (List.mem_of_getElem? (i := 41) rfl))) (mvT hZ (hw _ (List.mem_of_getElem? (i := 42) rfl))) (mvT hZ (hw _ (List.mem_of_getElem? (i := 43) rfl))) (by decide) (backOf (W := 0) (own_rm7 l Z a0 hw [] w_EMPTY_LIST k_w_elements_w_EMPTY_LIST w_elements_w_EMPTY_LIST T72.heap n0 Z77 (V_w_elements_w_EMPTY_LIST.ext O73.2) (F_elements_w_EMPTY_LIST.ext O73.2)) hZ (hw _ (List.mem_of_getElem? (i := 45) rfl)) (hw _ (List.mem_of_getElem? (i := 44) rfl)) (by decide) (by decide)) q82a q82b q82c (g := (mkF m 83 #[.val (.int p1), .val (.int p2), .val (.int p3), .val (.int (p3 &&& (3 : Int32))), .val (.int p1), .val (.int (2147483647 : Int32)), .val (.ref b69), .val (.ref w_EMPTY_LIST), .val (.int (1 : Int32)), .unset, .unset] [(.ref w_EMPTY_LIST)])) rfl (by rw [hml]; rfl) (Steps.refl _) (argsL := []) (rest := []) (lenOf own_pd143 rfl) rfl (by show 2 * 0 + _ ≤ _; exact Nat.le_of_eq rfl) (hb hby at_83) (fun _ _ => ⟨rfl, e80, (by decide : 1 + 0 ≤ _), (by decide : 2 + 0 ≤ _)⟩)
          dsimp only [Pt.U, Pt.locs, Pt.cells, Pt.slots] at X82 l82 y82 z82 st82 hQ82
          subst l82 y82 z82
          obtain ⟨hv82, N82q, e82⟩ := hQ82
          have N83 := Fr.app N81 N82q
          rw [show (own_f7) = (0 : Int32) from by first | rfl | decide | simp [own_f7]] at hv82
          subst hv82
          obtain ⟨fs, hr, hrun, hended, hW, hsame⟩ := X82.leave (hlocks := hlk) (v := some (.int (1 : Int32))) (fun h => by rw [Bd.returns] at h; cases h)
          refine ⟨_, _, k79 _ ?_, hrun, hended, _, _, rfl, ?_, ⟨_, rfl⟩, hW, hsame.mono (by decide) (by decide)⟩
          · show Steps p.tables e below (T72.setTop (mkF m 52 #[.val (.int p1), .val (.int p2), .val (.int p3), .val (.int (p3 &&& (3 : Int32))), .val (.int p1), .val (.int (2147483647 : Int32)), .val (.ref b69), .unset, .unset, .unset, .unset] [(.ref b69)])) _
            refine st80.trans ?_
            show Steps p.tables e below (T80.setTop (mkF m 55 #[.val (.int p1), .val (.int p2), .val (.int p3), .val (.int (p3 &&& (3 : Int32))), .val (.int p1), .val (.int (2147483647 : Int32)), .val (.ref b69), .unset, .unset, .unset, .unset] [(.ref w_EMPTY_LIST)])) _
            refine XS.astore X80.here hx rfl (hb hby at_55) rfl rfl (l' := #[.val (.int p1), .val (.int p2), .val (.int p3), .val (.int (p3 &&& (3 : Int32))), .val (.int p1), .val (.int (2147483647 : Int32)), .val (.ref b69), .val (.ref w_EMPTY_LIST), .unset, .unset, .unset]) rfl ?_
            show Steps p.tables e below (T80.setTop (mkF m 57 #[.val (.int p1), .val (.int p2), .val (.int p3), .val (.int (p3 &&& (3 : Int32))), .val (.int p1), .val (.int (2147483647 : Int32)), .val (.ref b69), .val (.ref w_EMPTY_LIST), .unset, .unset, .unset] [])) _
            refine XS.iload X80.here hx rfl (hb hby at_57) rfl ?_
            show Steps p.tables e below (T80.setTop (mkF m 59 #[.val (.int p1), .val (.int p2), .val (.int p3), .val (.int (p3 &&& (3 : Int32))), .val (.int p1), .val (.int (2147483647 : Int32)), .val (.ref b69), .val (.ref w_EMPTY_LIST), .unset, .unset, .unset] [(.int p1)])) _
            refine XS.ifNo X80.here hx rfl (hb hby at_59) rfl ((if0 _ _).trans (teq hc6).2) ?_
            show Steps p.tables e below (T80.setTop (mkF m 62 #[.val (.int p1), .val (.int p2), .val (.int p3), .val (.int (p3 &&& (3 : Int32))), .val (.int p1), .val (.int (2147483647 : Int32)), .val (.ref b69), .val (.ref w_EMPTY_LIST), .unset, .unset, .unset] [])) _
            refine XS.iload X80.here hx rfl (hb hby at_62) rfl ?_
            show Steps p.tables e below (T80.setTop (mkF m 64 #[.val (.int p1), .val (.int p2), .val (.int p3), .val (.int (p3 &&& (3 : Int32))), .val (.int p1), .val (.int (2147483647 : Int32)), .val (.ref b69), .val (.ref w_EMPTY_LIST), .unset, .unset, .unset] [(.int (2147483647 : Int32))])) _
            refine X80.ldcInt hx hown (mvT hZ (hw _ (List.mem_of_getElem? (i := 0) rfl))) (g := (mkF m 64 #[.val (.int p1), .val (.int p2), .val (.int p3), .val (.int (p3 &&& (3 : Int32))), .val (.int p1), .val (.int (2147483647 : Int32)), .val (.ref b69), .val (.ref w_EMPTY_LIST), .unset, .unset, .unset] [(.int (2147483647 : Int32))])) rfl (hb hby at_64) _ ?_
            show Steps p.tables e below (T80.setTop (mkF m 66 #[.val (.int p1), .val (.int p2), .val (.int p3), .val (.int (p3 &&& (3 : Int32))), .val (.int p1), .val (.int (2147483647 : Int32)), .val (.ref b69), .val (.ref w_EMPTY_LIST), .unset, .unset, .unset] [(.int (2147483647 : Int32)), (.int (2147483647 : Int32))])) _
            refine XS.icmpNo X80.here hx rfl (hb hby at_66) rfl (teq (by decide : (2147483647 : Int32) = (2147483647 : Int32))).2 ?_
            show Steps p.tables e below (T80.setTop (mkF m 69 #[.val (.int p1), .val (.int p2), .val (.int p3), .val (.int (p3 &&& (3 : Int32))), .val (.int p1), .val (.int (2147483647 : Int32)), .val (.ref b69), .val (.ref w_EMPTY_LIST), .unset, .unset, .unset] [])) _
            refine XS.iconst X80.here hx rfl (hb hby at_69) ?_
            show Steps p.tables e below (T80.setTop (mkF m 70 #[.val (.int p1), .val (.int p2), .val (.int p3), .val (.int (p3 &&& (3 : Int32))), .val (.int p1), .val (.int (2147483647 : Int32)), .val (.ref b69), .val (.ref w_EMPTY_LIST), .unset, .unset, .unset] [(.int (1 : Int32))])) _
            refine XS.goto X80.here hx rfl (pc0 := 70) (pc' := 74) rfl (hb hby at_70) (by decide) (by decide) ?_
            show Steps p.tables e below (T80.setTop (mkF m 74 #[.val (.int p1), .val (.int p2), .val (.int p3), .val (.int (p3 &&& (3 : Int32))), .val (.int p1), .val (.int (2147483647 : Int32)), .val (.ref b69), .val (.ref w_EMPTY_LIST), .unset, .unset, .unset] [(.int (1 : Int32))])) _
            refine XS.istore X80.here hx rfl (hb hby at_74) rfl (l' := #[.val (.int p1), .val (.int p2), .val (.int p3), .val (.int (p3 &&& (3 : Int32))), .val (.int p1), .val (.int (2147483647 : Int32)), .val (.ref b69), .val (.ref w_EMPTY_LIST), .val (.int (1 : Int32)), .unset, .unset]) rfl ?_
            show Steps p.tables e below (T80.setTop (mkF m 76 #[.val (.int p1), .val (.int p2), .val (.int p3), .val (.int (p3 &&& (3 : Int32))), .val (.int p1), .val (.int (2147483647 : Int32)), .val (.ref b69), .val (.ref w_EMPTY_LIST), .val (.int (1 : Int32)), .unset, .unset] [])) _
            refine XS.iload X80.here hx rfl (hb hby at_76) rfl ?_
            show Steps p.tables e below (T80.setTop (mkF m 78 #[.val (.int p1), .val (.int p2), .val (.int p3), .val (.int (p3 &&& (3 : Int32))), .val (.int p1), .val (.int (2147483647 : Int32)), .val (.ref b69), .val (.ref w_EMPTY_LIST), .val (.int (1 : Int32)), .unset, .unset] [(.int (1 : Int32))])) _
            refine XS.ifNo X80.here hx rfl (hb hby at_78) rfl ((if0 _ _).trans (feq (by decide : ¬ ((1 : Int32) = (0 : Int32)))).1) ?_
            show Steps p.tables e below (T80.setTop (mkF m 81 #[.val (.int p1), .val (.int p2), .val (.int p3), .val (.int (p3 &&& (3 : Int32))), .val (.int p1), .val (.int (2147483647 : Int32)), .val (.ref b69), .val (.ref w_EMPTY_LIST), .val (.int (1 : Int32)), .unset, .unset] [])) _
            refine XS.aload X80.here hx rfl (hb hby at_81) rfl rfl ?_
            show Steps p.tables e below (T80.setTop (mkF m 83 #[.val (.int p1), .val (.int p2), .val (.int p3), .val (.int (p3 &&& (3 : Int32))), .val (.int p1), .val (.int (2147483647 : Int32)), .val (.ref b69), .val (.ref w_EMPTY_LIST), .val (.int (1 : Int32)), .unset, .unset] [(.ref w_EMPTY_LIST)])) _
            refine st82.trans ?_
            show Steps p.tables e below (T82.setTop (mkF m 88 #[.val (.int p1), .val (.int p2), .val (.int p3), .val (.int (p3 &&& (3 : Int32))), .val (.int p1), .val (.int (2147483647 : Int32)), .val (.ref b69), .val (.ref w_EMPTY_LIST), .val (.int (1 : Int32)), .unset, .unset] [(.int (0 : Int32))])) _
            refine XS.ifNo X82.here hx rfl (hb hby at_88) rfl ((if0 _ _).trans (teq (by decide : (0 : Int32) = (0 : Int32))).2) ?_
            show Steps p.tables e below (T82.setTop (mkF m 91 #[.val (.int p1), .val (.int p2), .val (.int p3), .val (.int (p3 &&& (3 : Int32))), .val (.int p1), .val (.int (2147483647 : Int32)), .val (.ref b69), .val (.ref w_EMPTY_LIST), .val (.int (1 : Int32)), .unset, .unset] [])) _
            refine XS.iconst X82.here hx rfl (hb hby at_91) ?_
            show Steps p.tables e below (T82.setTop (mkF m 92 #[.val (.int p1), .val (.int p2), .val (.int p3), .val (.int (p3 &&& (3 : Int32))), .val (.int p1), .val (.int (2147483647 : Int32)), .val (.ref b69), .val (.ref w_EMPTY_LIST), .val (.int (1 : Int32)), .unset, .unset] [(.int (1 : Int32))])) _
            refine XS.goto X82.here hx rfl (pc0 := 92) (pc' := 96) rfl (hb hby at_92) (by decide) (by decide) ?_
            show Steps p.tables e below (T82.setTop (mkF m 96 #[.val (.int p1), .val (.int p2), .val (.int p3), .val (.int (p3 &&& (3 : Int32))), .val (.int p1), .val (.int (2147483647 : Int32)), .val (.ref b69), .val (.ref w_EMPTY_LIST), .val (.int (1 : Int32)), .unset, .unset] [(.int (1 : Int32))])) _
            exact retN X82 hx (t := .boolean) Bd.returns (by simp) (hb hby at_96) hr
          · show own_Q0 Z p1 p2 p3 clc w_EMPTY_LIST w_elements_w_EMPTY_LIST k_w_elements_w_EMPTY_LIST w_cache w_EMPTY h0 n0 _ T82.heap _
            rw [e82]
            exact ⟨(by rw [own_f0, if_neg hc1, if_neg hc2, if_pos hc5, if_pos hc6]), N83⟩
        ·
          obtain ⟨cq84, kq84, q84a, q84b, q84c⟩ := isOf hZ rfl Q72_0
          obtain ⟨v84, _, ⟨T84, L84, k84, n84⟩, -, X84, ⟨Lc84, hQ84, l84, y84, z84⟩, st84⟩ := X72.virtualBack hx (y := (⟨"com/example/fetch_plan/fetchplan/Page", "parameters", "()Ljava/util/List;"⟩ : MethodName)) (z := (⟨"com/example/fetch_plan/fetchplan/Page", "parameters", "()Ljava/util/List;"⟩ : MethodName)) hown (mvT hZ (hw _ (List.mem_of_getElem? (i := 19) rfl))) (mvT hZ (hw _ (List.mem_of_getElem? (i := 20) rfl))) (notFace_of_selects (args := #[]) (mvT hZ (hw _ (List.mem_of_getElem? (i := 22) rfl)))) (mvT hZ (hw _ (List.mem_of_getElem? (i := 22) rfl))) (mvT hZ (hw _ (List.mem_of_getElem? (i := 21) rfl))) (by decide) (backOf (W := 0) (own_vC_rm4 l Z a0 hw [] b69 clc p1 (2147483647 : Int32) w_cache T72.heap n0 Z77 O73 hc6 Hc Q72_1 Q72_2 Q72_0 S_high S_cache) hZ (hw _ (List.mem_of_getElem? (i := 23) rfl)) (hw _ (List.mem_of_getElem? (i := 3) rfl)) (by decide) (by decide)) q84a q84c (g := (mkF m 52 #[.val (.int p1), .val (.int p2), .val (.int p3), .val (.int (p3 &&& (3 : Int32))), .val (.int p1), .val (.int (2147483647 : Int32)), .val (.ref b69), .unset, .unset, .unset, .unset] [(.ref b69)])) rfl (by rw [hml]; rfl) (Steps.refl _) (argsL := []) (rest := []) (lenOf own_pd101 rfl) rfl (by show 2 * 0 + _ ≤ _; exact Nat.le_of_eq rfl) (hb hby at_52) (fun _ _ => ⟨rfl, rfl, (by decide : 1 + 3 ≤ _), (by decide : 2 + 4 ≤ _)⟩)
          dsimp only [Pt.U, Pt.locs, Pt.cells, Pt.slots] at X84 l84 y84 z84 st84 hQ84
          subst l84 y84 z84
          obtain ⟨r84, x184, x284, rfl, N84q, K84, hr84, Q84_0, Q84_1, Q84_2, Q84_3, Q84_4, Q84_5, Q84_6⟩ := hQ84
          have ne_w_EMPTY_LIST_r84 : w_EMPTY_LIST ≠ r84 := Nat.ne_of_lt (Nat.lt_of_lt_of_le (F_elements_w_EMPTY_LIST.ext O73.2).lt hr84)
          have ne_w_elements_w_EMPTY_LIST_r84 : w_elements_w_EMPTY_LIST ≠ r84 := Nat.ne_of_lt (Nat.lt_of_lt_of_le (V_w_elements_w_EMPTY_LIST.ext O73.2).lt hr84)
          have ne_w_EMPTY_r84 : w_EMPTY ≠ r84 := Nat.ne_of_lt (Nat.lt_of_lt_of_le (E_w_EMPTY.ext O73.2).lt hr84)
          have ne_b69_r84 : b69 ≠ r84 := Nat.ne_of_lt (Nat.lt_of_lt_of_le Q72_0.lt hr84)
          have g_r84 : n0 ≤ r84 := Nat.le_trans Z77 hr84
          have O85 := O73.keep K84 all0
          have f86 := Q72_0.keep K84
          have f87 := Q72_1.keep K84 nin0
          have f88 := Q72_2.keep K84 nin0
          have Z89 := Nat.le_trans Z77 K84.1
          have N90 := Fr.app N78 N84q
          obtain ⟨cq91, kq91, q91a, q91b, q91c⟩ := isOf hZ rfl Q84_4
          obtain ⟨v91, _, ⟨T91, L91, k91, n91⟩, -, X91, ⟨Lc91, hQ91, l91, y91, z91⟩, st91⟩ := X84.interfaceBack hx (xi := (⟨"java/util/List", "size", "()I"⟩ : MethodName)) (y := (⟨"java/util/ImmutableCollections$List12", "size", "()I"⟩ : MethodName)) hown (mvT hZ (hw _ (List.mem_of_getElem? (i := 36) rfl))) (mvT hZ (hw _ (List.mem_of_getElem? (i := 37) rfl))) (mvT hZ (hw _ (List.mem_of_getElem? (i := 38) rfl))) (mvT hZ (hw _ (List.mem_of_getElem? (i := 92) rfl))) (mvT hZ (hw _ (List.mem_of_getElem? (i := 93) rfl))) (mvT hZ (hw _ (List.mem_of_getElem? (i := 94) rfl))) (mvT hZ (hw _ (List.mem_of_getElem? (i := 95) rfl))) (mvT hZ (hw _ (List.mem_of_getElem? (i := 96) rfl))) (by decide) (backOf (W := 0) (own_rm15 l Z a0 hw [] r84 x284 w_EMPTY T84.heap n0 Z89 O85 (Exa.ne Q84_2 (E_w_EMPTY.ext O85.2) (by decide)) Q84_6 S_EMPTY) hZ (hw _ (List.mem_of_getElem? (i := 97) rfl)) (hw _ (List.mem_of_getElem? (i := 60) rfl)) (by decide) (by decide)) q91a q91b q91c (g := (mkF m 99 #[.val (.int p1), .val (.int p2), .val (.int p3), .val (.int (p3 &&& (3 : Int32))), .val (.int p1), .val (.int (2147483647 : Int32)), .val (.ref b69), .val (.ref r84), .val (.int (0 : Int32)), .unset, .unset] [(.ref r84)])) rfl (by rw [hml]; rfl) (Steps.refl _) (argsL := []) (rest := []) (lenOf own_pd143 rfl) rfl (by show 2 * 0 + _ ≤ _; exact Nat.le_of_eq rfl) (hb hby at_99) (fun _ _ => ⟨rfl, rfl, (by decide : 4 + 0 ≤ _), (by decide : 6 + 0 ≤ _)⟩)
          dsimp only [Pt.U, Pt.locs, Pt.cells, Pt.slots] at X91 l91 y91 z91 st91 hQ91
          subst l91 y91 z91
          obtain ⟨hv91, N91q, e91⟩ := hQ91
          have N92 := Fr.app N90 N91q
          rw [show (own_f15) = (2 : Int32) from by first | rfl | decide | simp [own_f15]] at hv91
          subst hv91
          obtain ⟨cq93, kq93, q93a, q93b, q93c⟩ := isOf hZ e91 Q84_4
          obtain ⟨v93, _, ⟨T93, L93, k93, n93⟩, -, X93, ⟨Lc93, hQ93, l93, y93, z93⟩, st93⟩ := X91.interfaceBack hx (xi := (⟨"java/util/List", "get", "(I)Ljava/lang/Object;"⟩ : MethodName)) (y := (⟨"java/util/ImmutableCollections$List12", "get", "(I)Ljava/lang/Object;"⟩ : MethodName)) hown (mvT hZ (hw _ (List.mem_of_getElem? (i := 99) rfl))) (mvT hZ (hw _ (List.mem_of_getElem? (i := 100) rfl))) (mvT hZ (hw _ (List.mem_of_getElem? (i := 101) rfl))) (mvT hZ (hw _ (List.mem_of_getElem? (i := 102) rfl))) (mvT hZ (hw _ (List.mem_of_getElem? (i := 103) rfl))) (mvT hZ (hw _ (List.mem_of_getElem? (i := 104) rfl))) (mvT hZ (hw _ (List.mem_of_getElem? (i := 105) rfl))) (mvT hZ (hw _ (List.mem_of_getElem? (i := 96) rfl))) (by decide) (backOf (W := 0) (own_v0_rm16 l Z a0 hw [] r84 x184 T84.heap n0 Z89 Q84_5) hZ (hw _ (List.mem_of_getElem? (i := 106) rfl)) (hw _ (List.mem_of_getElem? (i := 60) rfl)) (by decide) (by decide)) q93a q93b q93c (g := (mkF m 113 #[.val (.int p1), .val (.int p2), .val (.int p3), .val (.int (p3 &&& (3 : Int32))), .val (.int p1), .val (.int (2147483647 : Int32)), .val (.ref b69), .val (.ref r84), .val (.int (0 : Int32)), .unset, .unset] [(.int (0 : Int32)), (.ref r84)])) rfl (by rw [hml]; rfl) (Steps.refl _) (argsL := [(.int (0 : Int32))]) (rest := []) (lenOf own_pd144 rfl) rfl (by show 2 * 0 + _ ≤ _; exact Nat.le_of_eq rfl) (hb hby at_113) (fun _ _ => ⟨rfl, e91, (by decide : 4 + 0 ≤ _), (by decide : 6 + 0 ≤ _)⟩)
          dsimp only [Pt.U, Pt.locs, Pt.cells, Pt.slots] at X93 l93 y93 z93 st93 hQ93
          subst l93 y93 z93
          obtain ⟨hv93, N93q, e93⟩ := hQ93
          have N94 := Fr.app N92 N93q
          rw [show (own_v0_f16 x184) = x184 from by first | rfl | decide | simp [own_v0_f16]] at hv93
          subst hv93
          obtain ⟨cq95, kq95, q95a, q95b, q95c⟩ := isOf hZ e93 Q84_4
          obtain ⟨v95, _, ⟨T95, L95, k95, n95⟩, -, X95, ⟨Lc95, hQ95, l95, y95, z95⟩, st95⟩ := X93.interfaceBack hx (xi := (⟨"java/util/List", "get", "(I)Ljava/lang/Object;"⟩ : MethodName)) (y := (⟨"java/util/ImmutableCollections$List12", "get", "(I)Ljava/lang/Object;"⟩ : MethodName)) hown (mvT hZ (hw _ (List.mem_of_getElem? (i := 99) rfl))) (mvT hZ (hw _ (List.mem_of_getElem? (i := 100) rfl))) (mvT hZ (hw _ (List.mem_of_getElem? (i := 101) rfl))) (mvT hZ (hw _ (List.mem_of_getElem? (i := 102) rfl))) (mvT hZ (hw _ (List.mem_of_getElem? (i := 103) rfl))) (mvT hZ (hw _ (List.mem_of_getElem? (i := 104) rfl))) (mvT hZ (hw _ (List.mem_of_getElem? (i := 105) rfl))) (mvT hZ (hw _ (List.mem_of_getElem? (i := 96) rfl))) (by decide) (backOf (W := 0) (own_v1_rm16 l Z a0 hw [] r84 x284 w_EMPTY T84.heap n0 Z89 O85 (Exa.ne Q84_2 (E_w_EMPTY.ext O85.2) (by decide)) Q84_6 S_EMPTY) hZ (hw _ (List.mem_of_getElem? (i := 106) rfl)) (hw _ (List.mem_of_getElem? (i := 60) rfl)) (by decide) (by decide)) q95a q95b q95c (g := (mkF m 123 #[.val (.int p1), .val (.int p2), .val (.int p3), .val (.int (p3 &&& (3 : Int32))), .val (.int p1), .val (.int (2147483647 : Int32)), .val (.ref b69), .val (.ref r84), .val (.int (0 : Int32)), .val (.ref x184), .unset] [(.int (1 : Int32)), (.ref r84)])) rfl (by rw [hml]; rfl) (Steps.refl _) (argsL := [(.int (1 : Int32))]) (rest := []) (lenOf own_pd144 rfl) rfl (by show 2 * 0 + _ ≤ _; exact Nat.le_of_eq rfl) (hb hby at_123) (fun _ _ => ⟨rfl, e93, (by decide : 4 + 0 ≤ _), (by decide : 6 + 0 ≤ _)⟩)
          dsimp only [Pt.U, Pt.locs, Pt.cells, Pt.slots] at X95 l95 y95 z95 st95 hQ95
          subst l95 y95 z95
          obtain ⟨hv95, N95q, e95⟩ := hQ95
          have N96 := Fr.app N94 N95q
          rw [show (own_v1_f16 x284) = x284 from by first | rfl | decide | simp [own_v1_f16]] at hv95
          subst hv95
          obtain ⟨T97, X97, e97, st97⟩ := instY X95 hx hZ hown (hw _ (List.mem_of_getElem? (i := 107) rfl)) e95 (Ins.self Q84_0) (g := (mkF m 132 #[.val (.int p1), .val (.int p2), .val (.int p3), .val (.int (p3 &&& (3 : Int32))), .val (.int p1), .val (.int (2147483647 : Int32)), .val (.ref b69), .val (.ref r84), .val (.int (0 : Int32)), .val (.ref x184), .val (.ref x284)] [(.ref x184)])) rfl rfl (hb hby at_132)
          obtain ⟨T98, X98, e98, st98⟩ := instY X97 hx hZ hown (hw _ (List.mem_of_getElem? (i := 107) rfl)) e97 (Ins.self Q84_2) (g := (mkF m 140 #[.val (.int p1), .val (.int p2), .val (.int p3), .val (.int (p3 &&& (3 : Int32))), .val (.int p1), .val (.int (2147483647 : Int32)), .val (.ref b69), .val (.ref r84), .val (.int (0 : Int32)), .val (.ref x184), .val (.ref x284)] [(.ref x284)])) rfl rfl (hb hby at_140)
          obtain ⟨T99, X99, e99, st99⟩ := castY X98 hx hZ hown (hw _ (List.mem_of_getElem? (i := 107) rfl)) e98 (Ins.self Q84_0) (g := (mkF m 150 #[.val (.int p1), .val (.int p2), .val (.int p3), .val (.int (p3 &&& (3 : Int32))), .val (.int p1), .val (.int (2147483647 : Int32)), .val (.ref b69), .val (.ref r84), .val (.int (0 : Int32)), .val (.ref x184), .val (.ref x284)] [(.ref x184)])) rfl rfl (hb hby at_150)
          obtain ⟨cq100, kq100, q100a, q100b, q100c⟩ := isOf hZ e99 Q84_0
          obtain ⟨v100, _, ⟨T100, L100, k100, n100⟩, -, X100, ⟨Lc100, hQ100, l100, y100, z100⟩, st100⟩ := X99.virtualBack hx (y := (⟨"java/lang/Integer", "intValue", "()I"⟩ : MethodName)) (z := (⟨"java/lang/Integer", "intValue", "()I"⟩ : MethodName)) hown (mvT hZ (hw _ (List.mem_of_getElem? (i := 109) rfl))) (mvT hZ (hw _ (List.mem_of_getElem? (i := 110) rfl))) (notFace_of_selects (args := #[]) (mvT hZ (hw _ (List.mem_of_getElem? (i := 112) rfl)))) (mvT hZ (hw _ (List.mem_of_getElem? (i := 112) rfl))) (mvT hZ (hw _ (List.mem_of_getElem? (i := 111) rfl))) (by decide) (backOf (W := 0) (own_rm17 l Z a0 hw [] x184 p1 T84.heap n0 Z89 Q84_1) hZ (hw _ (List.mem_of_getElem? (i := 113) rfl)) (hw _ (List.mem_of_getElem? (i := 50) rfl)) (by decide) (by decide)) q100a q100c (g := (mkF m 153 #[.val (.int p1), .val (.int p2), .val (.int p3), .val (.int (p3 &&& (3 : Int32))), .val (.int p1), .val (.int (2147483647 : Int32)), .val (.ref b69), .val (.ref r84), .val (.int (0 : Int32)), .val (.ref x184), .val (.ref x284)] [(.ref x184)])) rfl (by rw [hml]; rfl) (Steps.refl _) (argsL := []) (rest := []) (lenOf own_pd143 rfl) rfl (by show 2 * 0 + _ ≤ _; exact Nat.le_of_eq rfl) (hb hby at_153) (fun _ _ => ⟨rfl, e99, (by decide : 4 + 0 ≤ _), (by decide : 6 + 0 ≤ _)⟩)
          dsimp only [Pt.U, Pt.locs, Pt.cells, Pt.slots] at X100 l100 y100 z100 st100 hQ100
          subst l100 y100 z100
          obtain ⟨hv100, N100q, e100⟩ := hQ100
          have N101 := Fr.app N96 N100q
          rw [show (own_f17 p1) = p1 from by first | rfl | decide | simp [own_f17]] at hv100
          subst hv100
          obtain ⟨T102, X102, e102, st102⟩ := castY X100 hx hZ hown (hw _ (List.mem_of_getElem? (i := 107) rfl)) e100 (Ins.self Q84_2) (g := (mkF m 163 #[.val (.int p1), .val (.int p2), .val (.int p3), .val (.int (p3 &&& (3 : Int32))), .val (.int p1), .val (.int (2147483647 : Int32)), .val (.ref b69), .val (.ref r84), .val (.int (0 : Int32)), .val (.ref x184), .val (.ref x284)] [(.ref x284)])) rfl rfl (hb hby at_163)
          obtain ⟨cq103, kq103, q103a, q103b, q103c⟩ := isOf hZ e102 Q84_2
          obtain ⟨v103, _, ⟨T103, L103, k103, n103⟩, -, X103, ⟨Lc103, hQ103, l103, y103, z103⟩, st103⟩ := X102.virtualBack hx (y := (⟨"java/lang/Integer", "intValue", "()I"⟩ : MethodName)) (z := (⟨"java/lang/Integer", "intValue", "()I"⟩ : MethodName)) hown (mvT hZ (hw _ (List.mem_of_getElem? (i := 109) rfl))) (mvT hZ (hw _ (List.mem_of_getElem? (i := 110) rfl))) (notFace_of_selects (args := #[]) (mvT hZ (hw _ (List.mem_of_getElem? (i := 112) rfl)))) (mvT hZ (hw _ (List.mem_of_getElem? (i := 112) rfl))) (mvT hZ (hw _ (List.mem_of_getElem? (i := 111) rfl))) (by decide) (backOf (W := 0) (own_rm17 l Z a0 hw [] x284 (2147483647 : Int32) T84.heap n0 Z89 Q84_3) hZ (hw _ (List.mem_of_getElem? (i := 113) rfl)) (hw _ (List.mem_of_getElem? (i := 50) rfl)) (by decide) (by decide)) q103a q103c (g := (mkF m 166 #[.val (.int p1), .val (.int p2), .val (.int p3), .val (.int (p3 &&& (3 : Int32))), .val (.int p1), .val (.int (2147483647 : Int32)), .val (.ref b69), .val (.ref r84), .val (.int (0 : Int32)), .val (.ref x184), .val (.ref x284)] [(.ref x284)])) rfl (by rw [hml]; rfl) (Steps.refl _) (argsL := []) (rest := []) (lenOf own_pd143 rfl) rfl (by show 2 * 0 + _ ≤ _; exact Nat.le_of_eq rfl) (hb hby at_166) (fun _ _ => ⟨rfl, e102, (by decide : 4 + 0 ≤ _), (by decide : 6 + 0 ≤ _)⟩)
          dsimp only [Pt.U, Pt.locs, Pt.cells, Pt.slots] at X103 l103 y103 z103 st103 hQ103
          subst l103 y103 z103
          obtain ⟨hv103, N103q, e103⟩ := hQ103
          have N104 := Fr.app N101 N103q
          rw [show (own_f17 (2147483647 : Int32)) = (2147483647 : Int32) from by first | rfl | decide | simp [own_f17]] at hv103
          subst hv103
          obtain ⟨fs, hr, hrun, hended, hW, hsame⟩ := X103.leave (hlocks := hlk) (v := some (.int (1 : Int32))) (fun h => by rw [Bd.returns] at h; cases h)
          refine ⟨_, _, k79 _ ?_, hrun, hended, _, _, rfl, ?_, ⟨_, rfl⟩, hW, hsame.mono (by decide) (by decide)⟩
          · show Steps p.tables e below (T72.setTop (mkF m 52 #[.val (.int p1), .val (.int p2), .val (.int p3), .val (.int (p3 &&& (3 : Int32))), .val (.int p1), .val (.int (2147483647 : Int32)), .val (.ref b69), .unset, .unset, .unset, .unset] [(.ref b69)])) _
            refine st84.trans ?_
            show Steps p.tables e below (T84.setTop (mkF m 55 #[.val (.int p1), .val (.int p2), .val (.int p3), .val (.int (p3 &&& (3 : Int32))), .val (.int p1), .val (.int (2147483647 : Int32)), .val (.ref b69), .unset, .unset, .unset, .unset] [(.ref r84)])) _
            refine XS.astore X84.here hx rfl (hb hby at_55) rfl rfl (l' := #[.val (.int p1), .val (.int p2), .val (.int p3), .val (.int (p3 &&& (3 : Int32))), .val (.int p1), .val (.int (2147483647 : Int32)), .val (.ref b69), .val (.ref r84), .unset, .unset, .unset]) rfl ?_
            show Steps p.tables e below (T84.setTop (mkF m 57 #[.val (.int p1), .val (.int p2), .val (.int p3), .val (.int (p3 &&& (3 : Int32))), .val (.int p1), .val (.int (2147483647 : Int32)), .val (.ref b69), .val (.ref r84), .unset, .unset, .unset] [])) _
            refine XS.iload X84.here hx rfl (hb hby at_57) rfl ?_
            show Steps p.tables e below (T84.setTop (mkF m 59 #[.val (.int p1), .val (.int p2), .val (.int p3), .val (.int (p3 &&& (3 : Int32))), .val (.int p1), .val (.int (2147483647 : Int32)), .val (.ref b69), .val (.ref r84), .unset, .unset, .unset] [(.int p1)])) _
            refine XS.ifYes X84.here hx rfl (pc0 := 59) (pc' := 73) rfl (hb hby at_59) rfl ((if0 _ _).trans (feq hc6).2) (by decide) (by decide) ?_
            show Steps p.tables e below (T84.setTop (mkF m 73 #[.val (.int p1), .val (.int p2), .val (.int p3), .val (.int (p3 &&& (3 : Int32))), .val (.int p1), .val (.int (2147483647 : Int32)), .val (.ref b69), .val (.ref r84), .unset, .unset, .unset] [])) _
            refine XS.iconst X84.here hx rfl (hb hby at_73) ?_
            show Steps p.tables e below (T84.setTop (mkF m 74 #[.val (.int p1), .val (.int p2), .val (.int p3), .val (.int (p3 &&& (3 : Int32))), .val (.int p1), .val (.int (2147483647 : Int32)), .val (.ref b69), .val (.ref r84), .unset, .unset, .unset] [(.int (0 : Int32))])) _
            refine XS.istore X84.here hx rfl (hb hby at_74) rfl (l' := #[.val (.int p1), .val (.int p2), .val (.int p3), .val (.int (p3 &&& (3 : Int32))), .val (.int p1), .val (.int (2147483647 : Int32)), .val (.ref b69), .val (.ref r84), .val (.int (0 : Int32)), .unset, .unset]) rfl ?_
            show Steps p.tables e below (T84.setTop (mkF m 76 #[.val (.int p1), .val (.int p2), .val (.int p3), .val (.int (p3 &&& (3 : Int32))), .val (.int p1), .val (.int (2147483647 : Int32)), .val (.ref b69), .val (.ref r84), .val (.int (0 : Int32)), .unset, .unset] [])) _
            refine XS.iload X84.here hx rfl (hb hby at_76) rfl ?_
            show Steps p.tables e below (T84.setTop (mkF m 78 #[.val (.int p1), .val (.int p2), .val (.int p3), .val (.int (p3 &&& (3 : Int32))), .val (.int p1), .val (.int (2147483647 : Int32)), .val (.ref b69), .val (.ref r84), .val (.int (0 : Int32)), .unset, .unset] [(.int (0 : Int32))])) _
            refine XS.ifYes X84.here hx rfl (pc0 := 78) (pc' := 97) rfl (hb hby at_78) rfl ((if0 _ _).trans (teq (by decide : (0 : Int32) = (0 : Int32))).1) (by decide) (by decide) ?_
            show Steps p.tables e below (T84.setTop (mkF m 97 #[.val (.int p1), .val (.int p2), .val (.int p3), .val (.int (p3 &&& (3 : Int32))), .val (.int p1), .val (.int (2147483647 : Int32)), .val (.ref b69), .val (.ref r84), .val (.int (0 : Int32)), .unset, .unset] [])) _
            refine XS.aload X84.here hx rfl (hb hby at_97) rfl rfl ?_
            show Steps p.tables e below (T84.setTop (mkF m 99 #[.val (.int p1), .val (.int p2), .val (.int p3), .val (.int (p3 &&& (3 : Int32))), .val (.int p1), .val (.int (2147483647 : Int32)), .val (.ref b69), .val (.ref r84), .val (.int (0 : Int32)), .unset, .unset] [(.ref r84)])) _
            refine st91.trans ?_
            show Steps p.tables e below (T91.setTop (mkF m 104 #[.val (.int p1), .val (.int p2), .val (.int p3), .val (.int (p3 &&& (3 : Int32))), .val (.int p1), .val (.int (2147483647 : Int32)), .val (.ref b69), .val (.ref r84), .val (.int (0 : Int32)), .unset, .unset] [(.int (2 : Int32))])) _
            refine XS.iconst X91.here hx rfl (hb hby at_104) ?_
            show Steps p.tables e below (T91.setTop (mkF m 105 #[.val (.int p1), .val (.int p2), .val (.int p3), .val (.int (p3 &&& (3 : Int32))), .val (.int p1), .val (.int (2147483647 : Int32)), .val (.ref b69), .val (.ref r84), .val (.int (0 : Int32)), .unset, .unset] [(.int (2 : Int32)), (.int (2 : Int32))])) _
            refine XS.icmpYes X91.here hx rfl (pc0 := 105) (pc' := 110) rfl (hb hby at_105) rfl (teq (by decide : (2 : Int32) = (2 : Int32))).1 (by decide) (by decide) ?_
            show Steps p.tables e below (T91.setTop (mkF m 110 #[.val (.int p1), .val (.int p2), .val (.int p3), .val (.int (p3 &&& (3 : Int32))), .val (.int p1), .val (.int (2147483647 : Int32)), .val (.ref b69), .val (.ref r84), .val (.int (0 : Int32)), .unset, .unset] [])) _
            refine XS.aload X91.here hx rfl (hb hby at_110) rfl rfl ?_
            show Steps p.tables e below (T91.setTop (mkF m 112 #[.val (.int p1), .val (.int p2), .val (.int p3), .val (.int (p3 &&& (3 : Int32))), .val (.int p1), .val (.int (2147483647 : Int32)), .val (.ref b69), .val (.ref r84), .val (.int (0 : Int32)), .unset, .unset] [(.ref r84)])) _
            refine XS.iconst X91.here hx rfl (hb hby at_112) ?_
            show Steps p.tables e below (T91.setTop (mkF m 113 #[.val (.int p1), .val (.int p2), .val (.int p3), .val (.int (p3 &&& (3 : Int32))), .val (.int p1), .val (.int (2147483647 : Int32)), .val (.ref b69), .val (.ref r84), .val (.int (0 : Int32)), .unset, .unset] [(.int (0 : Int32)), (.ref r84)])) _
            refine st93.trans ?_
            show Steps p.tables e below (T93.setTop (mkF m 118 #[.val (.int p1), .val (.int p2), .val (.int p3), .val (.int (p3 &&& (3 : Int32))), .val (.int p1), .val (.int (2147483647 : Int32)), .val (.ref b69), .val (.ref r84), .val (.int (0 : Int32)), .unset, .unset] [(.ref x184)])) _
            refine XS.astore X93.here hx rfl (hb hby at_118) rfl rfl (l' := #[.val (.int p1), .val (.int p2), .val (.int p3), .val (.int (p3 &&& (3 : Int32))), .val (.int p1), .val (.int (2147483647 : Int32)), .val (.ref b69), .val (.ref r84), .val (.int (0 : Int32)), .val (.ref x184), .unset]) rfl ?_
            show Steps p.tables e below (T93.setTop (mkF m 120 #[.val (.int p1), .val (.int p2), .val (.int p3), .val (.int (p3 &&& (3 : Int32))), .val (.int p1), .val (.int (2147483647 : Int32)), .val (.ref b69), .val (.ref r84), .val (.int (0 : Int32)), .val (.ref x184), .unset] [])) _
            refine XS.aload X93.here hx rfl (hb hby at_120) rfl rfl ?_
            show Steps p.tables e below (T93.setTop (mkF m 122 #[.val (.int p1), .val (.int p2), .val (.int p3), .val (.int (p3 &&& (3 : Int32))), .val (.int p1), .val (.int (2147483647 : Int32)), .val (.ref b69), .val (.ref r84), .val (.int (0 : Int32)), .val (.ref x184), .unset] [(.ref r84)])) _
            refine XS.iconst X93.here hx rfl (hb hby at_122) ?_
            show Steps p.tables e below (T93.setTop (mkF m 123 #[.val (.int p1), .val (.int p2), .val (.int p3), .val (.int (p3 &&& (3 : Int32))), .val (.int p1), .val (.int (2147483647 : Int32)), .val (.ref b69), .val (.ref r84), .val (.int (0 : Int32)), .val (.ref x184), .unset] [(.int (1 : Int32)), (.ref r84)])) _
            refine st95.trans ?_
            show Steps p.tables e below (T95.setTop (mkF m 128 #[.val (.int p1), .val (.int p2), .val (.int p3), .val (.int (p3 &&& (3 : Int32))), .val (.int p1), .val (.int (2147483647 : Int32)), .val (.ref b69), .val (.ref r84), .val (.int (0 : Int32)), .val (.ref x184), .unset] [(.ref x284)])) _
            refine XS.astore X95.here hx rfl (hb hby at_128) rfl rfl (l' := #[.val (.int p1), .val (.int p2), .val (.int p3), .val (.int (p3 &&& (3 : Int32))), .val (.int p1), .val (.int (2147483647 : Int32)), .val (.ref b69), .val (.ref r84), .val (.int (0 : Int32)), .val (.ref x184), .val (.ref x284)]) rfl ?_
            show Steps p.tables e below (T95.setTop (mkF m 130 #[.val (.int p1), .val (.int p2), .val (.int p3), .val (.int (p3 &&& (3 : Int32))), .val (.int p1), .val (.int (2147483647 : Int32)), .val (.ref b69), .val (.ref r84), .val (.int (0 : Int32)), .val (.ref x184), .val (.ref x284)] [])) _
            refine XS.aload X95.here hx rfl (hb hby at_130) rfl rfl ?_
            show Steps p.tables e below (T95.setTop (mkF m 132 #[.val (.int p1), .val (.int p2), .val (.int p3), .val (.int (p3 &&& (3 : Int32))), .val (.int p1), .val (.int (2147483647 : Int32)), .val (.ref b69), .val (.ref r84), .val (.int (0 : Int32)), .val (.ref x184), .val (.ref x284)] [(.ref x184)])) _
            refine st97 _ ?_
            show Steps p.tables e below (T97.setTop (mkF m 135 #[.val (.int p1), .val (.int p2), .val (.int p3), .val (.int (p3 &&& (3 : Int32))), .val (.int p1), .val (.int (2147483647 : Int32)), .val (.ref b69), .val (.ref r84), .val (.int (0 : Int32)), .val (.ref x184), .val (.ref x284)] [(.int (1 : Int32))])) _
            refine XS.ifNo X97.here hx rfl (hb hby at_135) rfl ((if0 _ _).trans (feq (by decide : ¬ ((1 : Int32) = (0 : Int32)))).1) ?_
            show Steps p.tables e below (T97.setTop (mkF m 138 #[.val (.int p1), .val (.int p2), .val (.int p3), .val (.int (p3 &&& (3 : Int32))), .val (.int p1), .val (.int (2147483647 : Int32)), .val (.ref b69), .val (.ref r84), .val (.int (0 : Int32)), .val (.ref x184), .val (.ref x284)] [])) _
            refine XS.aload X97.here hx rfl (hb hby at_138) rfl rfl ?_
            show Steps p.tables e below (T97.setTop (mkF m 140 #[.val (.int p1), .val (.int p2), .val (.int p3), .val (.int (p3 &&& (3 : Int32))), .val (.int p1), .val (.int (2147483647 : Int32)), .val (.ref b69), .val (.ref r84), .val (.int (0 : Int32)), .val (.ref x184), .val (.ref x284)] [(.ref x284)])) _
            refine st98 _ ?_
            show Steps p.tables e below (T98.setTop (mkF m 143 #[.val (.int p1), .val (.int p2), .val (.int p3), .val (.int (p3 &&& (3 : Int32))), .val (.int p1), .val (.int (2147483647 : Int32)), .val (.ref b69), .val (.ref r84), .val (.int (0 : Int32)), .val (.ref x184), .val (.ref x284)] [(.int (1 : Int32))])) _
            refine XS.ifYes X98.here hx rfl (pc0 := 143) (pc' := 148) rfl (hb hby at_143) rfl ((if0 _ _).trans (feq (by decide : ¬ ((1 : Int32) = (0 : Int32)))).2) (by decide) (by decide) ?_
            show Steps p.tables e below (T98.setTop (mkF m 148 #[.val (.int p1), .val (.int p2), .val (.int p3), .val (.int (p3 &&& (3 : Int32))), .val (.int p1), .val (.int (2147483647 : Int32)), .val (.ref b69), .val (.ref r84), .val (.int (0 : Int32)), .val (.ref x184), .val (.ref x284)] [])) _
            refine XS.aload X98.here hx rfl (hb hby at_148) rfl rfl ?_
            show Steps p.tables e below (T98.setTop (mkF m 150 #[.val (.int p1), .val (.int p2), .val (.int p3), .val (.int (p3 &&& (3 : Int32))), .val (.int p1), .val (.int (2147483647 : Int32)), .val (.ref b69), .val (.ref r84), .val (.int (0 : Int32)), .val (.ref x184), .val (.ref x284)] [(.ref x184)])) _
            refine st99 _ ?_
            show Steps p.tables e below (T99.setTop (mkF m 153 #[.val (.int p1), .val (.int p2), .val (.int p3), .val (.int (p3 &&& (3 : Int32))), .val (.int p1), .val (.int (2147483647 : Int32)), .val (.ref b69), .val (.ref r84), .val (.int (0 : Int32)), .val (.ref x184), .val (.ref x284)] [(.ref x184)])) _
            refine st100.trans ?_
            show Steps p.tables e below (T100.setTop (mkF m 156 #[.val (.int p1), .val (.int p2), .val (.int p3), .val (.int (p3 &&& (3 : Int32))), .val (.int p1), .val (.int (2147483647 : Int32)), .val (.ref b69), .val (.ref r84), .val (.int (0 : Int32)), .val (.ref x184), .val (.ref x284)] [(.int p1)])) _
            refine XS.iload X100.here hx rfl (hb hby at_156) rfl ?_
            show Steps p.tables e below (T100.setTop (mkF m 158 #[.val (.int p1), .val (.int p2), .val (.int p3), .val (.int (p3 &&& (3 : Int32))), .val (.int p1), .val (.int (2147483647 : Int32)), .val (.ref b69), .val (.ref r84), .val (.int (0 : Int32)), .val (.ref x184), .val (.ref x284)] [(.int p1), (.int p1)])) _
            refine XS.icmpNo X100.here hx rfl (hb hby at_158) rfl (teq (rfl : p1 = p1)).2 ?_
            show Steps p.tables e below (T100.setTop (mkF m 161 #[.val (.int p1), .val (.int p2), .val (.int p3), .val (.int (p3 &&& (3 : Int32))), .val (.int p1), .val (.int (2147483647 : Int32)), .val (.ref b69), .val (.ref r84), .val (.int (0 : Int32)), .val (.ref x184), .val (.ref x284)] [])) _
            refine XS.aload X100.here hx rfl (hb hby at_161) rfl rfl ?_
            show Steps p.tables e below (T100.setTop (mkF m 163 #[.val (.int p1), .val (.int p2), .val (.int p3), .val (.int (p3 &&& (3 : Int32))), .val (.int p1), .val (.int (2147483647 : Int32)), .val (.ref b69), .val (.ref r84), .val (.int (0 : Int32)), .val (.ref x184), .val (.ref x284)] [(.ref x284)])) _
            refine st102 _ ?_
            show Steps p.tables e below (T102.setTop (mkF m 166 #[.val (.int p1), .val (.int p2), .val (.int p3), .val (.int (p3 &&& (3 : Int32))), .val (.int p1), .val (.int (2147483647 : Int32)), .val (.ref b69), .val (.ref r84), .val (.int (0 : Int32)), .val (.ref x184), .val (.ref x284)] [(.ref x284)])) _
            refine st103.trans ?_
            show Steps p.tables e below (T103.setTop (mkF m 169 #[.val (.int p1), .val (.int p2), .val (.int p3), .val (.int (p3 &&& (3 : Int32))), .val (.int p1), .val (.int (2147483647 : Int32)), .val (.ref b69), .val (.ref r84), .val (.int (0 : Int32)), .val (.ref x184), .val (.ref x284)] [(.int (2147483647 : Int32))])) _
            refine XS.iload X103.here hx rfl (hb hby at_169) rfl ?_
            show Steps p.tables e below (T103.setTop (mkF m 171 #[.val (.int p1), .val (.int p2), .val (.int p3), .val (.int (p3 &&& (3 : Int32))), .val (.int p1), .val (.int (2147483647 : Int32)), .val (.ref b69), .val (.ref r84), .val (.int (0 : Int32)), .val (.ref x184), .val (.ref x284)] [(.int (2147483647 : Int32)), (.int (2147483647 : Int32))])) _
            refine XS.icmpNo X103.here hx rfl (hb hby at_171) rfl (teq (by decide : (2147483647 : Int32) = (2147483647 : Int32))).2 ?_
            show Steps p.tables e below (T103.setTop (mkF m 174 #[.val (.int p1), .val (.int p2), .val (.int p3), .val (.int (p3 &&& (3 : Int32))), .val (.int p1), .val (.int (2147483647 : Int32)), .val (.ref b69), .val (.ref r84), .val (.int (0 : Int32)), .val (.ref x184), .val (.ref x284)] [])) _
            refine XS.iconst X103.here hx rfl (hb hby at_174) ?_
            show Steps p.tables e below (T103.setTop (mkF m 175 #[.val (.int p1), .val (.int p2), .val (.int p3), .val (.int (p3 &&& (3 : Int32))), .val (.int p1), .val (.int (2147483647 : Int32)), .val (.ref b69), .val (.ref r84), .val (.int (0 : Int32)), .val (.ref x184), .val (.ref x284)] [(.int (1 : Int32))])) _
            refine XS.goto X103.here hx rfl (pc0 := 175) (pc' := 179) rfl (hb hby at_175) (by decide) (by decide) ?_
            show Steps p.tables e below (T103.setTop (mkF m 179 #[.val (.int p1), .val (.int p2), .val (.int p3), .val (.int (p3 &&& (3 : Int32))), .val (.int p1), .val (.int (2147483647 : Int32)), .val (.ref b69), .val (.ref r84), .val (.int (0 : Int32)), .val (.ref x184), .val (.ref x284)] [(.int (1 : Int32))])) _
            exact retN X103 hx (t := .boolean) Bd.returns (by simp) (hb hby at_179) hr
          · show own_Q0 Z p1 p2 p3 clc w_EMPTY_LIST w_elements_w_EMPTY_LIST k_w_elements_w_EMPTY_LIST w_cache w_EMPTY h0 n0 _ T103.heap _
            rw [e103]
            exact ⟨(by rw [own_f0, if_neg hc1, if_neg hc2, if_pos hc5, if_neg hc6]), N104⟩
      ·
        obtain ⟨T105, h105, X105, e105, E105, A105, D105, -, st105⟩ := newO X0 hx hZ hown (hw _ (List.mem_of_getElem? (i := 1) rfl)) (hw _ (List.mem_of_getElem? (i := 2) rfl)) (hw _ (List.mem_of_getElem? (i := 3) rfl)) e0 (g := (mkF m 37 #[.val (.int p1), .val (.int p2), .val (.int p3), .val (.int (p3 &&& (3 : Int32))), .val (.int p1), .val (.int p2), .unset, .unset, .unset, .unset, .unset] [])) rfl (hb hby at_37) (by decide) (by decide)
        obtain ⟨b105, g105⟩ : ∃ z, z = h0.size := ⟨_, rfl⟩
        rw [← g105] at A105 D105 st105
        have ne_w_EMPTY_LIST_b105 : w_EMPTY_LIST ≠ b105 := Nat.ne_of_lt (Nat.lt_of_lt_of_le (F_elements_w_EMPTY_LIST.ext O0.2).lt (Nat.le_of_eq g105.symm))
        have ne_w_elements_w_EMPTY_LIST_b105 : w_elements_w_EMPTY_LIST ≠ b105 := Nat.ne_of_lt (Nat.lt_of_lt_of_le (V_w_elements_w_EMPTY_LIST.ext O0.2).lt (Nat.le_of_eq g105.symm))
        have ne_w_EMPTY_b105 : w_EMPTY ≠ b105 := Nat.ne_of_lt (Nat.lt_of_lt_of_le (E_w_EMPTY.ext O0.2).lt (Nat.le_of_eq g105.symm))
        have g_b105 : n0 ≤ b105 := Nat.le_trans Z0 (Nat.le_of_eq g105.symm)
        have O106 := O0.ext E105
        have Z107 := Nat.le_trans Z0 E105.1
        have F_first_b105 : Fld Z h105 b105 "com/example/fetch_plan/fetchplan/Page" "first" "I" (.int (0 : Int32)) := D105 (Or.inr (hw _ (List.mem_of_getElem? (i := 16) rfl))) (ty := .int) (by decide)
        have F_max_b105 : Fld Z h105 b105 "com/example/fetch_plan/fetchplan/Page" "max" "I" (.int (0 : Int32)) := D105 (Or.inr (hw _ (List.mem_of_getElem? (i := 18) rfl))) (ty := .int) (by decide)
        obtain ⟨v108, _, ⟨T108, L108, k108, n108⟩, -, X108, ⟨Lc108, hQ108, l108, y108, z108⟩, st108⟩ := X105.specialBack hx (y := (⟨"com/example/fetch_plan/fetchplan/Page", "<init>", "(II)V"⟩ : MethodName)) rfl hown (mvT hZ (hw _ (List.mem_of_getElem? (i := 4) rfl))) (mvT hZ (hw _ (List.mem_of_getElem? (i := 5) rfl))) (mvT hZ (hw _ (List.mem_of_getElem? (i := 6) rfl))) (by decide) (backOf (W := 1) (own_rm1 l Z a0 hw [] b105 p1 p2 (0 : Int32) (0 : Int32) h105 n0 Z107 A105 F_first_b105 g_b105 F_max_b105) hZ (hw _ (List.mem_of_getElem? (i := 6) rfl)) (hw _ (List.mem_of_getElem? (i := 3) rfl)) (by decide) (by decide)) (g := (mkF m 45 #[.val (.int p1), .val (.int p2), .val (.int p3), .val (.int (p3 &&& (3 : Int32))), .val (.int p1), .val (.int p2), .unset, .unset, .unset, .unset, .unset] [(.int p2), (.int p1), (.ref b105), (.ref b105)])) rfl (by rw [hml]; rfl) (Steps.refl _) (a := b105) (argsL := [(.int p1), (.int p2)]) (rest := [(.ref b105)]) (lenOf own_pd142 rfl) rfl (by show 2 * 0 + _ ≤ _; exact Nat.le_of_eq rfl) (hb hby at_45) (fun _ _ => ⟨rfl, e105, (by decide : 1 + 0 ≤ _), (by decide : 2 + 0 ≤ _)⟩)
        dsimp only [Pt.U, Pt.locs, Pt.cells, Pt.slots] at X108 l108 y108 z108 st108 hQ108
        subst l108 y108 z108
        obtain ⟨rfl, N108q, K108, Q108_0, Q108_1, Q108_2⟩ := hQ108
        have O109 := O106.keep K108 (allS g_b105 all0)
        have f110 := A105.keep K108
        have Z113 := Nat.le_trans Z107 K108.1
        have N114 := Fr.app N0 N108q
        have k115 : ∀ t, Steps p.tables e below (T108.setTop (mkF m 52 #[.val (.int p1), .val (.int p2), .val (.int p3), .val (.int (p3 &&& (3 : Int32))), .val (.int p1), .val (.int p2), .val (.ref b105), .unset, .unset, .unset, .unset] [(.ref b105)])) t → Steps p.tables e below (s₁.setTop (entryFrame m #[(.int p1), (.int p2), (.int p3)] maxLocals)) t := by
          intro t kt
          refine k68 t ?_
          show Steps p.tables e below (s₁.setTop (mkF m 26 #[.val (.int p1), .val (.int p2), .val (.int p3), .val (.int (p3 &&& (3 : Int32))), .val (.int p1), .unset, .unset, .unset, .unset, .unset, .unset] [(.int (2 : Int32)), (.int (p3 &&& (3 : Int32)))])) _
          refine XS.icmpYes X0.here hx rfl (pc0 := 26) (pc' := 34) rfl (hb hby at_26) rfl (feq hc5).2 (by decide) (by decide) ?_
          show Steps p.tables e below (s₁.setTop (mkF m 34 #[.val (.int p1), .val (.int p2), .val (.int p3), .val (.int (p3 &&& (3 : Int32))), .val (.int p1), .unset, .unset, .unset, .unset, .unset, .unset] [])) _
          refine XS.iloadN X0.here hx rfl (hb hby at_34) rfl ?_
          show Steps p.tables e below (s₁.setTop (mkF m 35 #[.val (.int p1), .val (.int p2), .val (.int p3), .val (.int (p3 &&& (3 : Int32))), .val (.int p1), .unset, .unset, .unset, .unset, .unset, .unset] [(.int p2)])) _
          refine XS.istore X0.here hx rfl (hb hby at_35) rfl (l' := #[.val (.int p1), .val (.int p2), .val (.int p3), .val (.int (p3 &&& (3 : Int32))), .val (.int p1), .val (.int p2), .unset, .unset, .unset, .unset, .unset]) rfl ?_
          show Steps p.tables e below (s₁.setTop (mkF m 37 #[.val (.int p1), .val (.int p2), .val (.int p3), .val (.int (p3 &&& (3 : Int32))), .val (.int p1), .val (.int p2), .unset, .unset, .unset, .unset, .unset] [])) _
          refine st105 _ ?_
          show Steps p.tables e below (T105.setTop (mkF m 40 #[.val (.int p1), .val (.int p2), .val (.int p3), .val (.int (p3 &&& (3 : Int32))), .val (.int p1), .val (.int p2), .unset, .unset, .unset, .unset, .unset] [(.ref b105)])) _
          refine XS.dup X105.here hx rfl (hb hby at_40) rfl rfl ?_
          show Steps p.tables e below (T105.setTop (mkF m 41 #[.val (.int p1), .val (.int p2), .val (.int p3), .val (.int (p3 &&& (3 : Int32))), .val (.int p1), .val (.int p2), .unset, .unset, .unset, .unset, .unset] [(.ref b105), (.ref b105)])) _
          refine XS.iload X105.here hx rfl (hb hby at_41) rfl ?_
          show Steps p.tables e below (T105.setTop (mkF m 43 #[.val (.int p1), .val (.int p2), .val (.int p3), .val (.int (p3 &&& (3 : Int32))), .val (.int p1), .val (.int p2), .unset, .unset, .unset, .unset, .unset] [(.int p1), (.ref b105), (.ref b105)])) _
          refine XS.iload X105.here hx rfl (hb hby at_43) rfl ?_
          show Steps p.tables e below (T105.setTop (mkF m 45 #[.val (.int p1), .val (.int p2), .val (.int p3), .val (.int (p3 &&& (3 : Int32))), .val (.int p1), .val (.int p2), .unset, .unset, .unset, .unset, .unset] [(.int p2), (.int p1), (.ref b105), (.ref b105)])) _
          refine st108.trans ?_
          show Steps p.tables e below (T108.setTop (mkF m 48 #[.val (.int p1), .val (.int p2), .val (.int p3), .val (.int (p3 &&& (3 : Int32))), .val (.int p1), .val (.int p2), .unset, .unset, .unset, .unset, .unset] [(.ref b105)])) _
          refine XS.astore X108.here hx rfl (hb hby at_48) rfl rfl (l' := #[.val (.int p1), .val (.int p2), .val (.int p3), .val (.int (p3 &&& (3 : Int32))), .val (.int p1), .val (.int p2), .val (.ref b105), .unset, .unset, .unset, .unset]) rfl ?_
          show Steps p.tables e below (T108.setTop (mkF m 50 #[.val (.int p1), .val (.int p2), .val (.int p3), .val (.int (p3 &&& (3 : Int32))), .val (.int p1), .val (.int p2), .val (.ref b105), .unset, .unset, .unset, .unset] [])) _
          refine XS.aload X108.here hx rfl (hb hby at_50) rfl rfl ?_
          exact kt
        by_cases hc7 : p1 = (0 : Int32)
        ·
          by_cases hc8 : p2 = (2147483647 : Int32)
          ·
            obtain ⟨cq116, kq116, q116a, q116b, q116c⟩ := isOf hZ rfl Q108_0
            obtain ⟨v116, _, ⟨T116, L116, k116, n116⟩, -, X116, ⟨Lc116, hQ116, l116, y116, z116⟩, st116⟩ := X108.virtualBack hx (y := (⟨"com/example/fetch_plan/fetchplan/Page", "parameters", "()Ljava/util/List;"⟩ : MethodName)) (z := (⟨"com/example/fetch_plan/fetchplan/Page", "parameters", "()Ljava/util/List;"⟩ : MethodName)) hown (mvT hZ (hw _ (List.mem_of_getElem? (i := 19) rfl))) (mvT hZ (hw _ (List.mem_of_getElem? (i := 20) rfl))) (notFace_of_selects (args := #[]) (mvT hZ (hw _ (List.mem_of_getElem? (i := 22) rfl)))) (mvT hZ (hw _ (List.mem_of_getElem? (i := 22) rfl))) (mvT hZ (hw _ (List.mem_of_getElem? (i := 21) rfl))) (by decide) (backOf (W := 0) (own_vA_rm4 l Z a0 hw [] b105 p1 p2 w_EMPTY_LIST T108.heap n0 Z113 O109 hc7 hc8 Q108_1 Q108_2 Q108_0 S_EMPTY_LIST) hZ (hw _ (List.mem_of_getElem? (i := 23) rfl)) (hw _ (List.mem_of_getElem? (i := 3) rfl)) (by decide) (by decide)) q116a q116c (g := (mkF m 52 #[.val (.int p1), .val (.int p2), .val (.int p3), .val (.int (p3 &&& (3 : Int32))), .val (.int p1), .val (.int p2), .val (.ref b105), .unset, .unset, .unset, .unset] [(.ref b105)])) rfl (by rw [hml]; rfl) (Steps.refl _) (argsL := []) (rest := []) (lenOf own_pd101 rfl) rfl (by show 2 * 0 + _ ≤ _; exact Nat.le_of_eq rfl) (hb hby at_52) (fun _ _ => ⟨rfl, rfl, (by decide : 1 + 0 ≤ _), (by decide : 2 + 0 ≤ _)⟩)
            dsimp only [Pt.U, Pt.locs, Pt.cells, Pt.slots] at X116 l116 y116 z116 st116 hQ116
            subst l116 y116 z116
            obtain ⟨hv116, N116q, e116⟩ := hQ116
            have N117 := Fr.app N114 N116q
            rw [show (own_vA_f4 w_EMPTY_LIST) = w_EMPTY_LIST from by first | rfl | decide | simp [own_vA_f4]] at hv116
            subst hv116
            obtain ⟨cq118, kq118, q118a, q118b, q118c⟩ := isOf hZ e116 (E_w_EMPTY_LIST.ext O109.2)
            obtain ⟨v118, _, ⟨T118, L118, k118, n118⟩, -, X118, ⟨Lc118, hQ118, l118, y118, z118⟩, st118⟩ := X116.interfaceBack hx (xi := (⟨"java/util/List", "size", "()I"⟩ : MethodName)) (y := (⟨"java/util/ImmutableCollections$ListN", "size", "()I"⟩ : MethodName)) hown (mvT hZ (hw _ (List.mem_of_getElem? (i := 36) rfl))) (mvT hZ (hw _ (List.mem_of_getElem? (i := 37) rfl))) (mvT hZ (hw _ (List.mem_of_getElem? (i := 38) rfl))) (mvT hZ (hw _ (List.mem_of_getElem? (i := 39) rfl))) (mvT hZ (hw _ (List.mem_of_getElem? (i := 40) rfl))) (mvT hZ (hw _ (List.mem_of_getElem? (i := 41) rfl))) (mvT hZ (hw _ (List.mem_of_getElem? (i := 42) rfl))) (mvT hZ (hw _ (List.mem_of_getElem? (i := 43) rfl))) (by decide) (backOf (W := 0) (own_rm7 l Z a0 hw [] w_EMPTY_LIST k_w_elements_w_EMPTY_LIST w_elements_w_EMPTY_LIST T108.heap n0 Z113 (V_w_elements_w_EMPTY_LIST.ext O109.2) (F_elements_w_EMPTY_LIST.ext O109.2)) hZ (hw _ (List.mem_of_getElem? (i := 45) rfl)) (hw _ (List.mem_of_getElem? (i := 44) rfl)) (by decide) (by decide)) q118a q118b q118c (g := (mkF m 83 #[.val (.int p1), .val (.int p2), .val (.int p3), .val (.int (p3 &&& (3 : Int32))), .val (.int p1), .val (.int p2), .val (.ref b105), .val (.ref w_EMPTY_LIST), .val (.int (1 : Int32)), .unset, .unset] [(.ref w_EMPTY_LIST)])) rfl (by rw [hml]; rfl) (Steps.refl _) (argsL := []) (rest := []) (lenOf own_pd143 rfl) rfl (by show 2 * 0 + _ ≤ _; exact Nat.le_of_eq rfl) (hb hby at_83) (fun _ _ => ⟨rfl, e116, (by decide : 1 + 0 ≤ _), (by decide : 2 + 0 ≤ _)⟩)
            dsimp only [Pt.U, Pt.locs, Pt.cells, Pt.slots] at X118 l118 y118 z118 st118 hQ118
            subst l118 y118 z118
            obtain ⟨hv118, N118q, e118⟩ := hQ118
            have N119 := Fr.app N117 N118q
            rw [show (own_f7) = (0 : Int32) from by first | rfl | decide | simp [own_f7]] at hv118
            subst hv118
            obtain ⟨fs, hr, hrun, hended, hW, hsame⟩ := X118.leave (hlocks := hlk) (v := some (.int (1 : Int32))) (fun h => by rw [Bd.returns] at h; cases h)
            refine ⟨_, _, k115 _ ?_, hrun, hended, _, _, rfl, ?_, ⟨_, rfl⟩, hW, hsame.mono (by decide) (by decide)⟩
            · show Steps p.tables e below (T108.setTop (mkF m 52 #[.val (.int p1), .val (.int p2), .val (.int p3), .val (.int (p3 &&& (3 : Int32))), .val (.int p1), .val (.int p2), .val (.ref b105), .unset, .unset, .unset, .unset] [(.ref b105)])) _
              refine st116.trans ?_
              show Steps p.tables e below (T116.setTop (mkF m 55 #[.val (.int p1), .val (.int p2), .val (.int p3), .val (.int (p3 &&& (3 : Int32))), .val (.int p1), .val (.int p2), .val (.ref b105), .unset, .unset, .unset, .unset] [(.ref w_EMPTY_LIST)])) _
              refine XS.astore X116.here hx rfl (hb hby at_55) rfl rfl (l' := #[.val (.int p1), .val (.int p2), .val (.int p3), .val (.int (p3 &&& (3 : Int32))), .val (.int p1), .val (.int p2), .val (.ref b105), .val (.ref w_EMPTY_LIST), .unset, .unset, .unset]) rfl ?_
              show Steps p.tables e below (T116.setTop (mkF m 57 #[.val (.int p1), .val (.int p2), .val (.int p3), .val (.int (p3 &&& (3 : Int32))), .val (.int p1), .val (.int p2), .val (.ref b105), .val (.ref w_EMPTY_LIST), .unset, .unset, .unset] [])) _
              refine XS.iload X116.here hx rfl (hb hby at_57) rfl ?_
              show Steps p.tables e below (T116.setTop (mkF m 59 #[.val (.int p1), .val (.int p2), .val (.int p3), .val (.int (p3 &&& (3 : Int32))), .val (.int p1), .val (.int p2), .val (.ref b105), .val (.ref w_EMPTY_LIST), .unset, .unset, .unset] [(.int p1)])) _
              refine XS.ifNo X116.here hx rfl (hb hby at_59) rfl ((if0 _ _).trans (teq hc7).2) ?_
              show Steps p.tables e below (T116.setTop (mkF m 62 #[.val (.int p1), .val (.int p2), .val (.int p3), .val (.int (p3 &&& (3 : Int32))), .val (.int p1), .val (.int p2), .val (.ref b105), .val (.ref w_EMPTY_LIST), .unset, .unset, .unset] [])) _
              refine XS.iload X116.here hx rfl (hb hby at_62) rfl ?_
              show Steps p.tables e below (T116.setTop (mkF m 64 #[.val (.int p1), .val (.int p2), .val (.int p3), .val (.int (p3 &&& (3 : Int32))), .val (.int p1), .val (.int p2), .val (.ref b105), .val (.ref w_EMPTY_LIST), .unset, .unset, .unset] [(.int p2)])) _
              refine X116.ldcInt hx hown (mvT hZ (hw _ (List.mem_of_getElem? (i := 0) rfl))) (g := (mkF m 64 #[.val (.int p1), .val (.int p2), .val (.int p3), .val (.int (p3 &&& (3 : Int32))), .val (.int p1), .val (.int p2), .val (.ref b105), .val (.ref w_EMPTY_LIST), .unset, .unset, .unset] [(.int p2)])) rfl (hb hby at_64) _ ?_
              show Steps p.tables e below (T116.setTop (mkF m 66 #[.val (.int p1), .val (.int p2), .val (.int p3), .val (.int (p3 &&& (3 : Int32))), .val (.int p1), .val (.int p2), .val (.ref b105), .val (.ref w_EMPTY_LIST), .unset, .unset, .unset] [(.int (2147483647 : Int32)), (.int p2)])) _
              refine XS.icmpNo X116.here hx rfl (hb hby at_66) rfl (teq hc8).2 ?_
              show Steps p.tables e below (T116.setTop (mkF m 69 #[.val (.int p1), .val (.int p2), .val (.int p3), .val (.int (p3 &&& (3 : Int32))), .val (.int p1), .val (.int p2), .val (.ref b105), .val (.ref w_EMPTY_LIST), .unset, .unset, .unset] [])) _
              refine XS.iconst X116.here hx rfl (hb hby at_69) ?_
              show Steps p.tables e below (T116.setTop (mkF m 70 #[.val (.int p1), .val (.int p2), .val (.int p3), .val (.int (p3 &&& (3 : Int32))), .val (.int p1), .val (.int p2), .val (.ref b105), .val (.ref w_EMPTY_LIST), .unset, .unset, .unset] [(.int (1 : Int32))])) _
              refine XS.goto X116.here hx rfl (pc0 := 70) (pc' := 74) rfl (hb hby at_70) (by decide) (by decide) ?_
              show Steps p.tables e below (T116.setTop (mkF m 74 #[.val (.int p1), .val (.int p2), .val (.int p3), .val (.int (p3 &&& (3 : Int32))), .val (.int p1), .val (.int p2), .val (.ref b105), .val (.ref w_EMPTY_LIST), .unset, .unset, .unset] [(.int (1 : Int32))])) _
              refine XS.istore X116.here hx rfl (hb hby at_74) rfl (l' := #[.val (.int p1), .val (.int p2), .val (.int p3), .val (.int (p3 &&& (3 : Int32))), .val (.int p1), .val (.int p2), .val (.ref b105), .val (.ref w_EMPTY_LIST), .val (.int (1 : Int32)), .unset, .unset]) rfl ?_
              show Steps p.tables e below (T116.setTop (mkF m 76 #[.val (.int p1), .val (.int p2), .val (.int p3), .val (.int (p3 &&& (3 : Int32))), .val (.int p1), .val (.int p2), .val (.ref b105), .val (.ref w_EMPTY_LIST), .val (.int (1 : Int32)), .unset, .unset] [])) _
              refine XS.iload X116.here hx rfl (hb hby at_76) rfl ?_
              show Steps p.tables e below (T116.setTop (mkF m 78 #[.val (.int p1), .val (.int p2), .val (.int p3), .val (.int (p3 &&& (3 : Int32))), .val (.int p1), .val (.int p2), .val (.ref b105), .val (.ref w_EMPTY_LIST), .val (.int (1 : Int32)), .unset, .unset] [(.int (1 : Int32))])) _
              refine XS.ifNo X116.here hx rfl (hb hby at_78) rfl ((if0 _ _).trans (feq (by decide : ¬ ((1 : Int32) = (0 : Int32)))).1) ?_
              show Steps p.tables e below (T116.setTop (mkF m 81 #[.val (.int p1), .val (.int p2), .val (.int p3), .val (.int (p3 &&& (3 : Int32))), .val (.int p1), .val (.int p2), .val (.ref b105), .val (.ref w_EMPTY_LIST), .val (.int (1 : Int32)), .unset, .unset] [])) _
              refine XS.aload X116.here hx rfl (hb hby at_81) rfl rfl ?_
              show Steps p.tables e below (T116.setTop (mkF m 83 #[.val (.int p1), .val (.int p2), .val (.int p3), .val (.int (p3 &&& (3 : Int32))), .val (.int p1), .val (.int p2), .val (.ref b105), .val (.ref w_EMPTY_LIST), .val (.int (1 : Int32)), .unset, .unset] [(.ref w_EMPTY_LIST)])) _
              refine st118.trans ?_
              show Steps p.tables e below (T118.setTop (mkF m 88 #[.val (.int p1), .val (.int p2), .val (.int p3), .val (.int (p3 &&& (3 : Int32))), .val (.int p1), .val (.int p2), .val (.ref b105), .val (.ref w_EMPTY_LIST), .val (.int (1 : Int32)), .unset, .unset] [(.int (0 : Int32))])) _
              refine XS.ifNo X118.here hx rfl (hb hby at_88) rfl ((if0 _ _).trans (teq (by decide : (0 : Int32) = (0 : Int32))).2) ?_
              show Steps p.tables e below (T118.setTop (mkF m 91 #[.val (.int p1), .val (.int p2), .val (.int p3), .val (.int (p3 &&& (3 : Int32))), .val (.int p1), .val (.int p2), .val (.ref b105), .val (.ref w_EMPTY_LIST), .val (.int (1 : Int32)), .unset, .unset] [])) _
              refine XS.iconst X118.here hx rfl (hb hby at_91) ?_
              show Steps p.tables e below (T118.setTop (mkF m 92 #[.val (.int p1), .val (.int p2), .val (.int p3), .val (.int (p3 &&& (3 : Int32))), .val (.int p1), .val (.int p2), .val (.ref b105), .val (.ref w_EMPTY_LIST), .val (.int (1 : Int32)), .unset, .unset] [(.int (1 : Int32))])) _
              refine XS.goto X118.here hx rfl (pc0 := 92) (pc' := 96) rfl (hb hby at_92) (by decide) (by decide) ?_
              show Steps p.tables e below (T118.setTop (mkF m 96 #[.val (.int p1), .val (.int p2), .val (.int p3), .val (.int (p3 &&& (3 : Int32))), .val (.int p1), .val (.int p2), .val (.ref b105), .val (.ref w_EMPTY_LIST), .val (.int (1 : Int32)), .unset, .unset] [(.int (1 : Int32))])) _
              exact retN X118 hx (t := .boolean) Bd.returns (by simp) (hb hby at_96) hr
            · show own_Q0 Z p1 p2 p3 clc w_EMPTY_LIST w_elements_w_EMPTY_LIST k_w_elements_w_EMPTY_LIST w_cache w_EMPTY h0 n0 _ T118.heap _
              rw [e118]
              exact ⟨(by rw [own_f0, if_neg hc1, if_neg hc2, if_neg hc5, if_pos hc7, if_pos hc8]), N119⟩
          ·
            obtain ⟨cq120, kq120, q120a, q120b, q120c⟩ := isOf hZ rfl Q108_0
            obtain ⟨v120, _, ⟨T120, L120, k120, n120⟩, -, X120, ⟨Lc120, hQ120, l120, y120, z120⟩, st120⟩ := X108.virtualBack hx (y := (⟨"com/example/fetch_plan/fetchplan/Page", "parameters", "()Ljava/util/List;"⟩ : MethodName)) (z := (⟨"com/example/fetch_plan/fetchplan/Page", "parameters", "()Ljava/util/List;"⟩ : MethodName)) hown (mvT hZ (hw _ (List.mem_of_getElem? (i := 19) rfl))) (mvT hZ (hw _ (List.mem_of_getElem? (i := 20) rfl))) (notFace_of_selects (args := #[]) (mvT hZ (hw _ (List.mem_of_getElem? (i := 22) rfl)))) (mvT hZ (hw _ (List.mem_of_getElem? (i := 22) rfl))) (mvT hZ (hw _ (List.mem_of_getElem? (i := 21) rfl))) (by decide) (backOf (W := 0) (own_vB_rm4 l Z a0 hw [] b105 clc p1 p2 w_cache T108.heap n0 Z113 O109 hc7 hc8 Hc Q108_1 Q108_2 Q108_0 S_high S_cache) hZ (hw _ (List.mem_of_getElem? (i := 23) rfl)) (hw _ (List.mem_of_getElem? (i := 3) rfl)) (by decide) (by decide)) q120a q120c (g := (mkF m 52 #[.val (.int p1), .val (.int p2), .val (.int p3), .val (.int (p3 &&& (3 : Int32))), .val (.int p1), .val (.int p2), .val (.ref b105), .unset, .unset, .unset, .unset] [(.ref b105)])) rfl (by rw [hml]; rfl) (Steps.refl _) (argsL := []) (rest := []) (lenOf own_pd101 rfl) rfl (by show 2 * 0 + _ ≤ _; exact Nat.le_of_eq rfl) (hb hby at_52) (fun _ _ => ⟨rfl, rfl, (by decide : 1 + 3 ≤ _), (by decide : 2 + 4 ≤ _)⟩)
            dsimp only [Pt.U, Pt.locs, Pt.cells, Pt.slots] at X120 l120 y120 z120 st120 hQ120
            subst l120 y120 z120
            obtain ⟨r120, x1120, x2120, rfl, N120q, K120, hr120, Q120_0, Q120_1, Q120_2, Q120_3, Q120_4, Q120_5, Q120_6⟩ := hQ120
            have ne_w_EMPTY_LIST_r120 : w_EMPTY_LIST ≠ r120 := Nat.ne_of_lt (Nat.lt_of_lt_of_le (F_elements_w_EMPTY_LIST.ext O109.2).lt hr120)
            have ne_w_elements_w_EMPTY_LIST_r120 : w_elements_w_EMPTY_LIST ≠ r120 := Nat.ne_of_lt (Nat.lt_of_lt_of_le (V_w_elements_w_EMPTY_LIST.ext O109.2).lt hr120)
            have ne_w_EMPTY_r120 : w_EMPTY ≠ r120 := Nat.ne_of_lt (Nat.lt_of_lt_of_le (E_w_EMPTY.ext O109.2).lt hr120)
            have ne_b105_r120 : b105 ≠ r120 := Nat.ne_of_lt (Nat.lt_of_lt_of_le Q108_0.lt hr120)
            have g_r120 : n0 ≤ r120 := Nat.le_trans Z113 hr120
            have O121 := O109.keep K120 all0
            have f122 := Q108_0.keep K120
            have f123 := Q108_1.keep K120 nin0
            have f124 := Q108_2.keep K120 nin0
            have Z125 := Nat.le_trans Z113 K120.1
            have N126 := Fr.app N114 N120q
            obtain ⟨cq127, kq127, q127a, q127b, q127c⟩ := isOf hZ rfl Q120_4
            obtain ⟨v127, _, ⟨T127, L127, k127, n127⟩, -, X127, ⟨Lc127, hQ127, l127, y127, z127⟩, st127⟩ := X120.interfaceBack hx (xi := (⟨"java/util/List", "size", "()I"⟩ : MethodName)) (y := (⟨"java/util/ImmutableCollections$List12", "size", "()I"⟩ : MethodName)) hown (mvT hZ (hw _ (List.mem_of_getElem? (i := 36) rfl))) (mvT hZ (hw _ (List.mem_of_getElem? (i := 37) rfl))) (mvT hZ (hw _ (List.mem_of_getElem? (i := 38) rfl))) (mvT hZ (hw _ (List.mem_of_getElem? (i := 92) rfl))) (mvT hZ (hw _ (List.mem_of_getElem? (i := 93) rfl))) (mvT hZ (hw _ (List.mem_of_getElem? (i := 94) rfl))) (mvT hZ (hw _ (List.mem_of_getElem? (i := 95) rfl))) (mvT hZ (hw _ (List.mem_of_getElem? (i := 96) rfl))) (by decide) (backOf (W := 0) (own_rm15 l Z a0 hw [] r120 x2120 w_EMPTY T120.heap n0 Z125 O121 (Exa.ne Q120_2 (E_w_EMPTY.ext O121.2) (by decide)) Q120_6 S_EMPTY) hZ (hw _ (List.mem_of_getElem? (i := 97) rfl)) (hw _ (List.mem_of_getElem? (i := 60) rfl)) (by decide) (by decide)) q127a q127b q127c (g := (mkF m 99 #[.val (.int p1), .val (.int p2), .val (.int p3), .val (.int (p3 &&& (3 : Int32))), .val (.int p1), .val (.int p2), .val (.ref b105), .val (.ref r120), .val (.int (0 : Int32)), .unset, .unset] [(.ref r120)])) rfl (by rw [hml]; rfl) (Steps.refl _) (argsL := []) (rest := []) (lenOf own_pd143 rfl) rfl (by show 2 * 0 + _ ≤ _; exact Nat.le_of_eq rfl) (hb hby at_99) (fun _ _ => ⟨rfl, rfl, (by decide : 4 + 0 ≤ _), (by decide : 6 + 0 ≤ _)⟩)
            dsimp only [Pt.U, Pt.locs, Pt.cells, Pt.slots] at X127 l127 y127 z127 st127 hQ127
            subst l127 y127 z127
            obtain ⟨hv127, N127q, e127⟩ := hQ127
            have N128 := Fr.app N126 N127q
            rw [show (own_f15) = (2 : Int32) from by first | rfl | decide | simp [own_f15]] at hv127
            subst hv127
            obtain ⟨cq129, kq129, q129a, q129b, q129c⟩ := isOf hZ e127 Q120_4
            obtain ⟨v129, _, ⟨T129, L129, k129, n129⟩, -, X129, ⟨Lc129, hQ129, l129, y129, z129⟩, st129⟩ := X127.interfaceBack hx (xi := (⟨"java/util/List", "get", "(I)Ljava/lang/Object;"⟩ : MethodName)) (y := (⟨"java/util/ImmutableCollections$List12", "get", "(I)Ljava/lang/Object;"⟩ : MethodName)) hown (mvT hZ (hw _ (List.mem_of_getElem? (i := 99) rfl))) (mvT hZ (hw _ (List.mem_of_getElem? (i := 100) rfl))) (mvT hZ (hw _ (List.mem_of_getElem? (i := 101) rfl))) (mvT hZ (hw _ (List.mem_of_getElem? (i := 102) rfl))) (mvT hZ (hw _ (List.mem_of_getElem? (i := 103) rfl))) (mvT hZ (hw _ (List.mem_of_getElem? (i := 104) rfl))) (mvT hZ (hw _ (List.mem_of_getElem? (i := 105) rfl))) (mvT hZ (hw _ (List.mem_of_getElem? (i := 96) rfl))) (by decide) (backOf (W := 0) (own_v0_rm16 l Z a0 hw [] r120 x1120 T120.heap n0 Z125 Q120_5) hZ (hw _ (List.mem_of_getElem? (i := 106) rfl)) (hw _ (List.mem_of_getElem? (i := 60) rfl)) (by decide) (by decide)) q129a q129b q129c (g := (mkF m 113 #[.val (.int p1), .val (.int p2), .val (.int p3), .val (.int (p3 &&& (3 : Int32))), .val (.int p1), .val (.int p2), .val (.ref b105), .val (.ref r120), .val (.int (0 : Int32)), .unset, .unset] [(.int (0 : Int32)), (.ref r120)])) rfl (by rw [hml]; rfl) (Steps.refl _) (argsL := [(.int (0 : Int32))]) (rest := []) (lenOf own_pd144 rfl) rfl (by show 2 * 0 + _ ≤ _; exact Nat.le_of_eq rfl) (hb hby at_113) (fun _ _ => ⟨rfl, e127, (by decide : 4 + 0 ≤ _), (by decide : 6 + 0 ≤ _)⟩)
            dsimp only [Pt.U, Pt.locs, Pt.cells, Pt.slots] at X129 l129 y129 z129 st129 hQ129
            subst l129 y129 z129
            obtain ⟨hv129, N129q, e129⟩ := hQ129
            have N130 := Fr.app N128 N129q
            rw [show (own_v0_f16 x1120) = x1120 from by first | rfl | decide | simp [own_v0_f16]] at hv129
            subst hv129
            obtain ⟨cq131, kq131, q131a, q131b, q131c⟩ := isOf hZ e129 Q120_4
            obtain ⟨v131, _, ⟨T131, L131, k131, n131⟩, -, X131, ⟨Lc131, hQ131, l131, y131, z131⟩, st131⟩ := X129.interfaceBack hx (xi := (⟨"java/util/List", "get", "(I)Ljava/lang/Object;"⟩ : MethodName)) (y := (⟨"java/util/ImmutableCollections$List12", "get", "(I)Ljava/lang/Object;"⟩ : MethodName)) hown (mvT hZ (hw _ (List.mem_of_getElem? (i := 99) rfl))) (mvT hZ (hw _ (List.mem_of_getElem? (i := 100) rfl))) (mvT hZ (hw _ (List.mem_of_getElem? (i := 101) rfl))) (mvT hZ (hw _ (List.mem_of_getElem? (i := 102) rfl))) (mvT hZ (hw _ (List.mem_of_getElem? (i := 103) rfl))) (mvT hZ (hw _ (List.mem_of_getElem? (i := 104) rfl))) (mvT hZ (hw _ (List.mem_of_getElem? (i := 105) rfl))) (mvT hZ (hw _ (List.mem_of_getElem? (i := 96) rfl))) (by decide) (backOf (W := 0) (own_v1_rm16 l Z a0 hw [] r120 x2120 w_EMPTY T120.heap n0 Z125 O121 (Exa.ne Q120_2 (E_w_EMPTY.ext O121.2) (by decide)) Q120_6 S_EMPTY) hZ (hw _ (List.mem_of_getElem? (i := 106) rfl)) (hw _ (List.mem_of_getElem? (i := 60) rfl)) (by decide) (by decide)) q131a q131b q131c (g := (mkF m 123 #[.val (.int p1), .val (.int p2), .val (.int p3), .val (.int (p3 &&& (3 : Int32))), .val (.int p1), .val (.int p2), .val (.ref b105), .val (.ref r120), .val (.int (0 : Int32)), .val (.ref x1120), .unset] [(.int (1 : Int32)), (.ref r120)])) rfl (by rw [hml]; rfl) (Steps.refl _) (argsL := [(.int (1 : Int32))]) (rest := []) (lenOf own_pd144 rfl) rfl (by show 2 * 0 + _ ≤ _; exact Nat.le_of_eq rfl) (hb hby at_123) (fun _ _ => ⟨rfl, e129, (by decide : 4 + 0 ≤ _), (by decide : 6 + 0 ≤ _)⟩)
            dsimp only [Pt.U, Pt.locs, Pt.cells, Pt.slots] at X131 l131 y131 z131 st131 hQ131
            subst l131 y131 z131
            obtain ⟨hv131, N131q, e131⟩ := hQ131
            have N132 := Fr.app N130 N131q
            rw [show (own_v1_f16 x2120) = x2120 from by first | rfl | decide | simp [own_v1_f16]] at hv131
            subst hv131
            obtain ⟨T133, X133, e133, st133⟩ := instY X131 hx hZ hown (hw _ (List.mem_of_getElem? (i := 107) rfl)) e131 (Ins.self Q120_0) (g := (mkF m 132 #[.val (.int p1), .val (.int p2), .val (.int p3), .val (.int (p3 &&& (3 : Int32))), .val (.int p1), .val (.int p2), .val (.ref b105), .val (.ref r120), .val (.int (0 : Int32)), .val (.ref x1120), .val (.ref x2120)] [(.ref x1120)])) rfl rfl (hb hby at_132)
            obtain ⟨T134, X134, e134, st134⟩ := instY X133 hx hZ hown (hw _ (List.mem_of_getElem? (i := 107) rfl)) e133 (Ins.self Q120_2) (g := (mkF m 140 #[.val (.int p1), .val (.int p2), .val (.int p3), .val (.int (p3 &&& (3 : Int32))), .val (.int p1), .val (.int p2), .val (.ref b105), .val (.ref r120), .val (.int (0 : Int32)), .val (.ref x1120), .val (.ref x2120)] [(.ref x2120)])) rfl rfl (hb hby at_140)
            obtain ⟨T135, X135, e135, st135⟩ := castY X134 hx hZ hown (hw _ (List.mem_of_getElem? (i := 107) rfl)) e134 (Ins.self Q120_0) (g := (mkF m 150 #[.val (.int p1), .val (.int p2), .val (.int p3), .val (.int (p3 &&& (3 : Int32))), .val (.int p1), .val (.int p2), .val (.ref b105), .val (.ref r120), .val (.int (0 : Int32)), .val (.ref x1120), .val (.ref x2120)] [(.ref x1120)])) rfl rfl (hb hby at_150)
            obtain ⟨cq136, kq136, q136a, q136b, q136c⟩ := isOf hZ e135 Q120_0
            obtain ⟨v136, _, ⟨T136, L136, k136, n136⟩, -, X136, ⟨Lc136, hQ136, l136, y136, z136⟩, st136⟩ := X135.virtualBack hx (y := (⟨"java/lang/Integer", "intValue", "()I"⟩ : MethodName)) (z := (⟨"java/lang/Integer", "intValue", "()I"⟩ : MethodName)) hown (mvT hZ (hw _ (List.mem_of_getElem? (i := 109) rfl))) (mvT hZ (hw _ (List.mem_of_getElem? (i := 110) rfl))) (notFace_of_selects (args := #[]) (mvT hZ (hw _ (List.mem_of_getElem? (i := 112) rfl)))) (mvT hZ (hw _ (List.mem_of_getElem? (i := 112) rfl))) (mvT hZ (hw _ (List.mem_of_getElem? (i := 111) rfl))) (by decide) (backOf (W := 0) (own_rm17 l Z a0 hw [] x1120 p1 T120.heap n0 Z125 Q120_1) hZ (hw _ (List.mem_of_getElem? (i := 113) rfl)) (hw _ (List.mem_of_getElem? (i := 50) rfl)) (by decide) (by decide)) q136a q136c (g := (mkF m 153 #[.val (.int p1), .val (.int p2), .val (.int p3), .val (.int (p3 &&& (3 : Int32))), .val (.int p1), .val (.int p2), .val (.ref b105), .val (.ref r120), .val (.int (0 : Int32)), .val (.ref x1120), .val (.ref x2120)] [(.ref x1120)])) rfl (by rw [hml]; rfl) (Steps.refl _) (argsL := []) (rest := []) (lenOf own_pd143 rfl) rfl (by show 2 * 0 + _ ≤ _; exact Nat.le_of_eq rfl) (hb hby at_153) (fun _ _ => ⟨rfl, e135, (by decide : 4 + 0 ≤ _), (by decide : 6 + 0 ≤ _)⟩)
            dsimp only [Pt.U, Pt.locs, Pt.cells, Pt.slots] at X136 l136 y136 z136 st136 hQ136
            subst l136 y136 z136
            obtain ⟨hv136, N136q, e136⟩ := hQ136
            have N137 := Fr.app N132 N136q
            rw [show (own_f17 p1) = p1 from by first | rfl | decide | simp [own_f17]] at hv136
            subst hv136
            obtain ⟨T138, X138, e138, st138⟩ := castY X136 hx hZ hown (hw _ (List.mem_of_getElem? (i := 107) rfl)) e136 (Ins.self Q120_2) (g := (mkF m 163 #[.val (.int p1), .val (.int p2), .val (.int p3), .val (.int (p3 &&& (3 : Int32))), .val (.int p1), .val (.int p2), .val (.ref b105), .val (.ref r120), .val (.int (0 : Int32)), .val (.ref x1120), .val (.ref x2120)] [(.ref x2120)])) rfl rfl (hb hby at_163)
            obtain ⟨cq139, kq139, q139a, q139b, q139c⟩ := isOf hZ e138 Q120_2
            obtain ⟨v139, _, ⟨T139, L139, k139, n139⟩, -, X139, ⟨Lc139, hQ139, l139, y139, z139⟩, st139⟩ := X138.virtualBack hx (y := (⟨"java/lang/Integer", "intValue", "()I"⟩ : MethodName)) (z := (⟨"java/lang/Integer", "intValue", "()I"⟩ : MethodName)) hown (mvT hZ (hw _ (List.mem_of_getElem? (i := 109) rfl))) (mvT hZ (hw _ (List.mem_of_getElem? (i := 110) rfl))) (notFace_of_selects (args := #[]) (mvT hZ (hw _ (List.mem_of_getElem? (i := 112) rfl)))) (mvT hZ (hw _ (List.mem_of_getElem? (i := 112) rfl))) (mvT hZ (hw _ (List.mem_of_getElem? (i := 111) rfl))) (by decide) (backOf (W := 0) (own_rm17 l Z a0 hw [] x2120 p2 T120.heap n0 Z125 Q120_3) hZ (hw _ (List.mem_of_getElem? (i := 113) rfl)) (hw _ (List.mem_of_getElem? (i := 50) rfl)) (by decide) (by decide)) q139a q139c (g := (mkF m 166 #[.val (.int p1), .val (.int p2), .val (.int p3), .val (.int (p3 &&& (3 : Int32))), .val (.int p1), .val (.int p2), .val (.ref b105), .val (.ref r120), .val (.int (0 : Int32)), .val (.ref x1120), .val (.ref x2120)] [(.ref x2120)])) rfl (by rw [hml]; rfl) (Steps.refl _) (argsL := []) (rest := []) (lenOf own_pd143 rfl) rfl (by show 2 * 0 + _ ≤ _; exact Nat.le_of_eq rfl) (hb hby at_166) (fun _ _ => ⟨rfl, e138, (by decide : 4 + 0 ≤ _), (by decide : 6 + 0 ≤ _)⟩)
            dsimp only [Pt.U, Pt.locs, Pt.cells, Pt.slots] at X139 l139 y139 z139 st139 hQ139
            subst l139 y139 z139
            obtain ⟨hv139, N139q, e139⟩ := hQ139
            have N140 := Fr.app N137 N139q
            rw [show (own_f17 p2) = p2 from by first | rfl | decide | simp [own_f17]] at hv139
            subst hv139
            obtain ⟨fs, hr, hrun, hended, hW, hsame⟩ := X139.leave (hlocks := hlk) (v := some (.int (1 : Int32))) (fun h => by rw [Bd.returns] at h; cases h)
            refine ⟨_, _, k115 _ ?_, hrun, hended, _, _, rfl, ?_, ⟨_, rfl⟩, hW, hsame.mono (by decide) (by decide)⟩
            · show Steps p.tables e below (T108.setTop (mkF m 52 #[.val (.int p1), .val (.int p2), .val (.int p3), .val (.int (p3 &&& (3 : Int32))), .val (.int p1), .val (.int p2), .val (.ref b105), .unset, .unset, .unset, .unset] [(.ref b105)])) _
              refine st120.trans ?_
              show Steps p.tables e below (T120.setTop (mkF m 55 #[.val (.int p1), .val (.int p2), .val (.int p3), .val (.int (p3 &&& (3 : Int32))), .val (.int p1), .val (.int p2), .val (.ref b105), .unset, .unset, .unset, .unset] [(.ref r120)])) _
              refine XS.astore X120.here hx rfl (hb hby at_55) rfl rfl (l' := #[.val (.int p1), .val (.int p2), .val (.int p3), .val (.int (p3 &&& (3 : Int32))), .val (.int p1), .val (.int p2), .val (.ref b105), .val (.ref r120), .unset, .unset, .unset]) rfl ?_
              show Steps p.tables e below (T120.setTop (mkF m 57 #[.val (.int p1), .val (.int p2), .val (.int p3), .val (.int (p3 &&& (3 : Int32))), .val (.int p1), .val (.int p2), .val (.ref b105), .val (.ref r120), .unset, .unset, .unset] [])) _
              refine XS.iload X120.here hx rfl (hb hby at_57) rfl ?_
              show Steps p.tables e below (T120.setTop (mkF m 59 #[.val (.int p1), .val (.int p2), .val (.int p3), .val (.int (p3 &&& (3 : Int32))), .val (.int p1), .val (.int p2), .val (.ref b105), .val (.ref r120), .unset, .unset, .unset] [(.int p1)])) _
              refine XS.ifNo X120.here hx rfl (hb hby at_59) rfl ((if0 _ _).trans (teq hc7).2) ?_
              show Steps p.tables e below (T120.setTop (mkF m 62 #[.val (.int p1), .val (.int p2), .val (.int p3), .val (.int (p3 &&& (3 : Int32))), .val (.int p1), .val (.int p2), .val (.ref b105), .val (.ref r120), .unset, .unset, .unset] [])) _
              refine XS.iload X120.here hx rfl (hb hby at_62) rfl ?_
              show Steps p.tables e below (T120.setTop (mkF m 64 #[.val (.int p1), .val (.int p2), .val (.int p3), .val (.int (p3 &&& (3 : Int32))), .val (.int p1), .val (.int p2), .val (.ref b105), .val (.ref r120), .unset, .unset, .unset] [(.int p2)])) _
              refine X120.ldcInt hx hown (mvT hZ (hw _ (List.mem_of_getElem? (i := 0) rfl))) (g := (mkF m 64 #[.val (.int p1), .val (.int p2), .val (.int p3), .val (.int (p3 &&& (3 : Int32))), .val (.int p1), .val (.int p2), .val (.ref b105), .val (.ref r120), .unset, .unset, .unset] [(.int p2)])) rfl (hb hby at_64) _ ?_
              show Steps p.tables e below (T120.setTop (mkF m 66 #[.val (.int p1), .val (.int p2), .val (.int p3), .val (.int (p3 &&& (3 : Int32))), .val (.int p1), .val (.int p2), .val (.ref b105), .val (.ref r120), .unset, .unset, .unset] [(.int (2147483647 : Int32)), (.int p2)])) _
              refine XS.icmpYes X120.here hx rfl (pc0 := 66) (pc' := 73) rfl (hb hby at_66) rfl (feq hc8).2 (by decide) (by decide) ?_
              show Steps p.tables e below (T120.setTop (mkF m 73 #[.val (.int p1), .val (.int p2), .val (.int p3), .val (.int (p3 &&& (3 : Int32))), .val (.int p1), .val (.int p2), .val (.ref b105), .val (.ref r120), .unset, .unset, .unset] [])) _
              refine XS.iconst X120.here hx rfl (hb hby at_73) ?_
              show Steps p.tables e below (T120.setTop (mkF m 74 #[.val (.int p1), .val (.int p2), .val (.int p3), .val (.int (p3 &&& (3 : Int32))), .val (.int p1), .val (.int p2), .val (.ref b105), .val (.ref r120), .unset, .unset, .unset] [(.int (0 : Int32))])) _
              refine XS.istore X120.here hx rfl (hb hby at_74) rfl (l' := #[.val (.int p1), .val (.int p2), .val (.int p3), .val (.int (p3 &&& (3 : Int32))), .val (.int p1), .val (.int p2), .val (.ref b105), .val (.ref r120), .val (.int (0 : Int32)), .unset, .unset]) rfl ?_
              show Steps p.tables e below (T120.setTop (mkF m 76 #[.val (.int p1), .val (.int p2), .val (.int p3), .val (.int (p3 &&& (3 : Int32))), .val (.int p1), .val (.int p2), .val (.ref b105), .val (.ref r120), .val (.int (0 : Int32)), .unset, .unset] [])) _
              refine XS.iload X120.here hx rfl (hb hby at_76) rfl ?_
              show Steps p.tables e below (T120.setTop (mkF m 78 #[.val (.int p1), .val (.int p2), .val (.int p3), .val (.int (p3 &&& (3 : Int32))), .val (.int p1), .val (.int p2), .val (.ref b105), .val (.ref r120), .val (.int (0 : Int32)), .unset, .unset] [(.int (0 : Int32))])) _
              refine XS.ifYes X120.here hx rfl (pc0 := 78) (pc' := 97) rfl (hb hby at_78) rfl ((if0 _ _).trans (teq (by decide : (0 : Int32) = (0 : Int32))).1) (by decide) (by decide) ?_
              show Steps p.tables e below (T120.setTop (mkF m 97 #[.val (.int p1), .val (.int p2), .val (.int p3), .val (.int (p3 &&& (3 : Int32))), .val (.int p1), .val (.int p2), .val (.ref b105), .val (.ref r120), .val (.int (0 : Int32)), .unset, .unset] [])) _
              refine XS.aload X120.here hx rfl (hb hby at_97) rfl rfl ?_
              show Steps p.tables e below (T120.setTop (mkF m 99 #[.val (.int p1), .val (.int p2), .val (.int p3), .val (.int (p3 &&& (3 : Int32))), .val (.int p1), .val (.int p2), .val (.ref b105), .val (.ref r120), .val (.int (0 : Int32)), .unset, .unset] [(.ref r120)])) _
              refine st127.trans ?_
              show Steps p.tables e below (T127.setTop (mkF m 104 #[.val (.int p1), .val (.int p2), .val (.int p3), .val (.int (p3 &&& (3 : Int32))), .val (.int p1), .val (.int p2), .val (.ref b105), .val (.ref r120), .val (.int (0 : Int32)), .unset, .unset] [(.int (2 : Int32))])) _
              refine XS.iconst X127.here hx rfl (hb hby at_104) ?_
              show Steps p.tables e below (T127.setTop (mkF m 105 #[.val (.int p1), .val (.int p2), .val (.int p3), .val (.int (p3 &&& (3 : Int32))), .val (.int p1), .val (.int p2), .val (.ref b105), .val (.ref r120), .val (.int (0 : Int32)), .unset, .unset] [(.int (2 : Int32)), (.int (2 : Int32))])) _
              refine XS.icmpYes X127.here hx rfl (pc0 := 105) (pc' := 110) rfl (hb hby at_105) rfl (teq (by decide : (2 : Int32) = (2 : Int32))).1 (by decide) (by decide) ?_
              show Steps p.tables e below (T127.setTop (mkF m 110 #[.val (.int p1), .val (.int p2), .val (.int p3), .val (.int (p3 &&& (3 : Int32))), .val (.int p1), .val (.int p2), .val (.ref b105), .val (.ref r120), .val (.int (0 : Int32)), .unset, .unset] [])) _
              refine XS.aload X127.here hx rfl (hb hby at_110) rfl rfl ?_
              show Steps p.tables e below (T127.setTop (mkF m 112 #[.val (.int p1), .val (.int p2), .val (.int p3), .val (.int (p3 &&& (3 : Int32))), .val (.int p1), .val (.int p2), .val (.ref b105), .val (.ref r120), .val (.int (0 : Int32)), .unset, .unset] [(.ref r120)])) _
              refine XS.iconst X127.here hx rfl (hb hby at_112) ?_
              show Steps p.tables e below (T127.setTop (mkF m 113 #[.val (.int p1), .val (.int p2), .val (.int p3), .val (.int (p3 &&& (3 : Int32))), .val (.int p1), .val (.int p2), .val (.ref b105), .val (.ref r120), .val (.int (0 : Int32)), .unset, .unset] [(.int (0 : Int32)), (.ref r120)])) _
              refine st129.trans ?_
              show Steps p.tables e below (T129.setTop (mkF m 118 #[.val (.int p1), .val (.int p2), .val (.int p3), .val (.int (p3 &&& (3 : Int32))), .val (.int p1), .val (.int p2), .val (.ref b105), .val (.ref r120), .val (.int (0 : Int32)), .unset, .unset] [(.ref x1120)])) _
              refine XS.astore X129.here hx rfl (hb hby at_118) rfl rfl (l' := #[.val (.int p1), .val (.int p2), .val (.int p3), .val (.int (p3 &&& (3 : Int32))), .val (.int p1), .val (.int p2), .val (.ref b105), .val (.ref r120), .val (.int (0 : Int32)), .val (.ref x1120), .unset]) rfl ?_
              show Steps p.tables e below (T129.setTop (mkF m 120 #[.val (.int p1), .val (.int p2), .val (.int p3), .val (.int (p3 &&& (3 : Int32))), .val (.int p1), .val (.int p2), .val (.ref b105), .val (.ref r120), .val (.int (0 : Int32)), .val (.ref x1120), .unset] [])) _
              refine XS.aload X129.here hx rfl (hb hby at_120) rfl rfl ?_
              show Steps p.tables e below (T129.setTop (mkF m 122 #[.val (.int p1), .val (.int p2), .val (.int p3), .val (.int (p3 &&& (3 : Int32))), .val (.int p1), .val (.int p2), .val (.ref b105), .val (.ref r120), .val (.int (0 : Int32)), .val (.ref x1120), .unset] [(.ref r120)])) _
              refine XS.iconst X129.here hx rfl (hb hby at_122) ?_
              show Steps p.tables e below (T129.setTop (mkF m 123 #[.val (.int p1), .val (.int p2), .val (.int p3), .val (.int (p3 &&& (3 : Int32))), .val (.int p1), .val (.int p2), .val (.ref b105), .val (.ref r120), .val (.int (0 : Int32)), .val (.ref x1120), .unset] [(.int (1 : Int32)), (.ref r120)])) _
              refine st131.trans ?_
              show Steps p.tables e below (T131.setTop (mkF m 128 #[.val (.int p1), .val (.int p2), .val (.int p3), .val (.int (p3 &&& (3 : Int32))), .val (.int p1), .val (.int p2), .val (.ref b105), .val (.ref r120), .val (.int (0 : Int32)), .val (.ref x1120), .unset] [(.ref x2120)])) _
              refine XS.astore X131.here hx rfl (hb hby at_128) rfl rfl (l' := #[.val (.int p1), .val (.int p2), .val (.int p3), .val (.int (p3 &&& (3 : Int32))), .val (.int p1), .val (.int p2), .val (.ref b105), .val (.ref r120), .val (.int (0 : Int32)), .val (.ref x1120), .val (.ref x2120)]) rfl ?_
              show Steps p.tables e below (T131.setTop (mkF m 130 #[.val (.int p1), .val (.int p2), .val (.int p3), .val (.int (p3 &&& (3 : Int32))), .val (.int p1), .val (.int p2), .val (.ref b105), .val (.ref r120), .val (.int (0 : Int32)), .val (.ref x1120), .val (.ref x2120)] [])) _
              refine XS.aload X131.here hx rfl (hb hby at_130) rfl rfl ?_
              show Steps p.tables e below (T131.setTop (mkF m 132 #[.val (.int p1), .val (.int p2), .val (.int p3), .val (.int (p3 &&& (3 : Int32))), .val (.int p1), .val (.int p2), .val (.ref b105), .val (.ref r120), .val (.int (0 : Int32)), .val (.ref x1120), .val (.ref x2120)] [(.ref x1120)])) _
              refine st133 _ ?_
              show Steps p.tables e below (T133.setTop (mkF m 135 #[.val (.int p1), .val (.int p2), .val (.int p3), .val (.int (p3 &&& (3 : Int32))), .val (.int p1), .val (.int p2), .val (.ref b105), .val (.ref r120), .val (.int (0 : Int32)), .val (.ref x1120), .val (.ref x2120)] [(.int (1 : Int32))])) _
              refine XS.ifNo X133.here hx rfl (hb hby at_135) rfl ((if0 _ _).trans (feq (by decide : ¬ ((1 : Int32) = (0 : Int32)))).1) ?_
              show Steps p.tables e below (T133.setTop (mkF m 138 #[.val (.int p1), .val (.int p2), .val (.int p3), .val (.int (p3 &&& (3 : Int32))), .val (.int p1), .val (.int p2), .val (.ref b105), .val (.ref r120), .val (.int (0 : Int32)), .val (.ref x1120), .val (.ref x2120)] [])) _
              refine XS.aload X133.here hx rfl (hb hby at_138) rfl rfl ?_
              show Steps p.tables e below (T133.setTop (mkF m 140 #[.val (.int p1), .val (.int p2), .val (.int p3), .val (.int (p3 &&& (3 : Int32))), .val (.int p1), .val (.int p2), .val (.ref b105), .val (.ref r120), .val (.int (0 : Int32)), .val (.ref x1120), .val (.ref x2120)] [(.ref x2120)])) _
              refine st134 _ ?_
              show Steps p.tables e below (T134.setTop (mkF m 143 #[.val (.int p1), .val (.int p2), .val (.int p3), .val (.int (p3 &&& (3 : Int32))), .val (.int p1), .val (.int p2), .val (.ref b105), .val (.ref r120), .val (.int (0 : Int32)), .val (.ref x1120), .val (.ref x2120)] [(.int (1 : Int32))])) _
              refine XS.ifYes X134.here hx rfl (pc0 := 143) (pc' := 148) rfl (hb hby at_143) rfl ((if0 _ _).trans (feq (by decide : ¬ ((1 : Int32) = (0 : Int32)))).2) (by decide) (by decide) ?_
              show Steps p.tables e below (T134.setTop (mkF m 148 #[.val (.int p1), .val (.int p2), .val (.int p3), .val (.int (p3 &&& (3 : Int32))), .val (.int p1), .val (.int p2), .val (.ref b105), .val (.ref r120), .val (.int (0 : Int32)), .val (.ref x1120), .val (.ref x2120)] [])) _
              refine XS.aload X134.here hx rfl (hb hby at_148) rfl rfl ?_
              show Steps p.tables e below (T134.setTop (mkF m 150 #[.val (.int p1), .val (.int p2), .val (.int p3), .val (.int (p3 &&& (3 : Int32))), .val (.int p1), .val (.int p2), .val (.ref b105), .val (.ref r120), .val (.int (0 : Int32)), .val (.ref x1120), .val (.ref x2120)] [(.ref x1120)])) _
              refine st135 _ ?_
              show Steps p.tables e below (T135.setTop (mkF m 153 #[.val (.int p1), .val (.int p2), .val (.int p3), .val (.int (p3 &&& (3 : Int32))), .val (.int p1), .val (.int p2), .val (.ref b105), .val (.ref r120), .val (.int (0 : Int32)), .val (.ref x1120), .val (.ref x2120)] [(.ref x1120)])) _
              refine st136.trans ?_
              show Steps p.tables e below (T136.setTop (mkF m 156 #[.val (.int p1), .val (.int p2), .val (.int p3), .val (.int (p3 &&& (3 : Int32))), .val (.int p1), .val (.int p2), .val (.ref b105), .val (.ref r120), .val (.int (0 : Int32)), .val (.ref x1120), .val (.ref x2120)] [(.int p1)])) _
              refine XS.iload X136.here hx rfl (hb hby at_156) rfl ?_
              show Steps p.tables e below (T136.setTop (mkF m 158 #[.val (.int p1), .val (.int p2), .val (.int p3), .val (.int (p3 &&& (3 : Int32))), .val (.int p1), .val (.int p2), .val (.ref b105), .val (.ref r120), .val (.int (0 : Int32)), .val (.ref x1120), .val (.ref x2120)] [(.int p1), (.int p1)])) _
              refine XS.icmpNo X136.here hx rfl (hb hby at_158) rfl (teq (rfl : p1 = p1)).2 ?_
              show Steps p.tables e below (T136.setTop (mkF m 161 #[.val (.int p1), .val (.int p2), .val (.int p3), .val (.int (p3 &&& (3 : Int32))), .val (.int p1), .val (.int p2), .val (.ref b105), .val (.ref r120), .val (.int (0 : Int32)), .val (.ref x1120), .val (.ref x2120)] [])) _
              refine XS.aload X136.here hx rfl (hb hby at_161) rfl rfl ?_
              show Steps p.tables e below (T136.setTop (mkF m 163 #[.val (.int p1), .val (.int p2), .val (.int p3), .val (.int (p3 &&& (3 : Int32))), .val (.int p1), .val (.int p2), .val (.ref b105), .val (.ref r120), .val (.int (0 : Int32)), .val (.ref x1120), .val (.ref x2120)] [(.ref x2120)])) _
              refine st138 _ ?_
              show Steps p.tables e below (T138.setTop (mkF m 166 #[.val (.int p1), .val (.int p2), .val (.int p3), .val (.int (p3 &&& (3 : Int32))), .val (.int p1), .val (.int p2), .val (.ref b105), .val (.ref r120), .val (.int (0 : Int32)), .val (.ref x1120), .val (.ref x2120)] [(.ref x2120)])) _
              refine st139.trans ?_
              show Steps p.tables e below (T139.setTop (mkF m 169 #[.val (.int p1), .val (.int p2), .val (.int p3), .val (.int (p3 &&& (3 : Int32))), .val (.int p1), .val (.int p2), .val (.ref b105), .val (.ref r120), .val (.int (0 : Int32)), .val (.ref x1120), .val (.ref x2120)] [(.int p2)])) _
              refine XS.iload X139.here hx rfl (hb hby at_169) rfl ?_
              show Steps p.tables e below (T139.setTop (mkF m 171 #[.val (.int p1), .val (.int p2), .val (.int p3), .val (.int (p3 &&& (3 : Int32))), .val (.int p1), .val (.int p2), .val (.ref b105), .val (.ref r120), .val (.int (0 : Int32)), .val (.ref x1120), .val (.ref x2120)] [(.int p2), (.int p2)])) _
              refine XS.icmpNo X139.here hx rfl (hb hby at_171) rfl (teq (rfl : p2 = p2)).2 ?_
              show Steps p.tables e below (T139.setTop (mkF m 174 #[.val (.int p1), .val (.int p2), .val (.int p3), .val (.int (p3 &&& (3 : Int32))), .val (.int p1), .val (.int p2), .val (.ref b105), .val (.ref r120), .val (.int (0 : Int32)), .val (.ref x1120), .val (.ref x2120)] [])) _
              refine XS.iconst X139.here hx rfl (hb hby at_174) ?_
              show Steps p.tables e below (T139.setTop (mkF m 175 #[.val (.int p1), .val (.int p2), .val (.int p3), .val (.int (p3 &&& (3 : Int32))), .val (.int p1), .val (.int p2), .val (.ref b105), .val (.ref r120), .val (.int (0 : Int32)), .val (.ref x1120), .val (.ref x2120)] [(.int (1 : Int32))])) _
              refine XS.goto X139.here hx rfl (pc0 := 175) (pc' := 179) rfl (hb hby at_175) (by decide) (by decide) ?_
              show Steps p.tables e below (T139.setTop (mkF m 179 #[.val (.int p1), .val (.int p2), .val (.int p3), .val (.int (p3 &&& (3 : Int32))), .val (.int p1), .val (.int p2), .val (.ref b105), .val (.ref r120), .val (.int (0 : Int32)), .val (.ref x1120), .val (.ref x2120)] [(.int (1 : Int32))])) _
              exact retN X139 hx (t := .boolean) Bd.returns (by simp) (hb hby at_179) hr
            · show own_Q0 Z p1 p2 p3 clc w_EMPTY_LIST w_elements_w_EMPTY_LIST k_w_elements_w_EMPTY_LIST w_cache w_EMPTY h0 n0 _ T139.heap _
              rw [e139]
              exact ⟨(by rw [own_f0, if_neg hc1, if_neg hc2, if_neg hc5, if_pos hc7, if_neg hc8]), N140⟩
        ·
          by_cases hc9 : p2 = (2147483647 : Int32)
          ·
            obtain ⟨cq141, kq141, q141a, q141b, q141c⟩ := isOf hZ rfl Q108_0
            obtain ⟨v141, _, ⟨T141, L141, k141, n141⟩, -, X141, ⟨Lc141, hQ141, l141, y141, z141⟩, st141⟩ := X108.virtualBack hx (y := (⟨"com/example/fetch_plan/fetchplan/Page", "parameters", "()Ljava/util/List;"⟩ : MethodName)) (z := (⟨"com/example/fetch_plan/fetchplan/Page", "parameters", "()Ljava/util/List;"⟩ : MethodName)) hown (mvT hZ (hw _ (List.mem_of_getElem? (i := 19) rfl))) (mvT hZ (hw _ (List.mem_of_getElem? (i := 20) rfl))) (notFace_of_selects (args := #[]) (mvT hZ (hw _ (List.mem_of_getElem? (i := 22) rfl)))) (mvT hZ (hw _ (List.mem_of_getElem? (i := 22) rfl))) (mvT hZ (hw _ (List.mem_of_getElem? (i := 21) rfl))) (by decide) (backOf (W := 0) (own_vC_rm4 l Z a0 hw [] b105 clc p1 p2 w_cache T108.heap n0 Z113 O109 hc7 Hc Q108_1 Q108_2 Q108_0 S_high S_cache) hZ (hw _ (List.mem_of_getElem? (i := 23) rfl)) (hw _ (List.mem_of_getElem? (i := 3) rfl)) (by decide) (by decide)) q141a q141c (g := (mkF m 52 #[.val (.int p1), .val (.int p2), .val (.int p3), .val (.int (p3 &&& (3 : Int32))), .val (.int p1), .val (.int p2), .val (.ref b105), .unset, .unset, .unset, .unset] [(.ref b105)])) rfl (by rw [hml]; rfl) (Steps.refl _) (argsL := []) (rest := []) (lenOf own_pd101 rfl) rfl (by show 2 * 0 + _ ≤ _; exact Nat.le_of_eq rfl) (hb hby at_52) (fun _ _ => ⟨rfl, rfl, (by decide : 1 + 3 ≤ _), (by decide : 2 + 4 ≤ _)⟩)
            dsimp only [Pt.U, Pt.locs, Pt.cells, Pt.slots] at X141 l141 y141 z141 st141 hQ141
            subst l141 y141 z141
            obtain ⟨r141, x1141, x2141, rfl, N141q, K141, hr141, Q141_0, Q141_1, Q141_2, Q141_3, Q141_4, Q141_5, Q141_6⟩ := hQ141
            have ne_w_EMPTY_LIST_r141 : w_EMPTY_LIST ≠ r141 := Nat.ne_of_lt (Nat.lt_of_lt_of_le (F_elements_w_EMPTY_LIST.ext O109.2).lt hr141)
            have ne_w_elements_w_EMPTY_LIST_r141 : w_elements_w_EMPTY_LIST ≠ r141 := Nat.ne_of_lt (Nat.lt_of_lt_of_le (V_w_elements_w_EMPTY_LIST.ext O109.2).lt hr141)
            have ne_w_EMPTY_r141 : w_EMPTY ≠ r141 := Nat.ne_of_lt (Nat.lt_of_lt_of_le (E_w_EMPTY.ext O109.2).lt hr141)
            have ne_b105_r141 : b105 ≠ r141 := Nat.ne_of_lt (Nat.lt_of_lt_of_le Q108_0.lt hr141)
            have g_r141 : n0 ≤ r141 := Nat.le_trans Z113 hr141
            have O142 := O109.keep K141 all0
            have f143 := Q108_0.keep K141
            have f144 := Q108_1.keep K141 nin0
            have f145 := Q108_2.keep K141 nin0
            have Z146 := Nat.le_trans Z113 K141.1
            have N147 := Fr.app N114 N141q
            obtain ⟨cq148, kq148, q148a, q148b, q148c⟩ := isOf hZ rfl Q141_4
            obtain ⟨v148, _, ⟨T148, L148, k148, n148⟩, -, X148, ⟨Lc148, hQ148, l148, y148, z148⟩, st148⟩ := X141.interfaceBack hx (xi := (⟨"java/util/List", "size", "()I"⟩ : MethodName)) (y := (⟨"java/util/ImmutableCollections$List12", "size", "()I"⟩ : MethodName)) hown (mvT hZ (hw _ (List.mem_of_getElem? (i := 36) rfl))) (mvT hZ (hw _ (List.mem_of_getElem? (i := 37) rfl))) (mvT hZ (hw _ (List.mem_of_getElem? (i := 38) rfl))) (mvT hZ (hw _ (List.mem_of_getElem? (i := 92) rfl))) (mvT hZ (hw _ (List.mem_of_getElem? (i := 93) rfl))) (mvT hZ (hw _ (List.mem_of_getElem? (i := 94) rfl))) (mvT hZ (hw _ (List.mem_of_getElem? (i := 95) rfl))) (mvT hZ (hw _ (List.mem_of_getElem? (i := 96) rfl))) (by decide) (backOf (W := 0) (own_rm15 l Z a0 hw [] r141 x2141 w_EMPTY T141.heap n0 Z146 O142 (Exa.ne Q141_2 (E_w_EMPTY.ext O142.2) (by decide)) Q141_6 S_EMPTY) hZ (hw _ (List.mem_of_getElem? (i := 97) rfl)) (hw _ (List.mem_of_getElem? (i := 60) rfl)) (by decide) (by decide)) q148a q148b q148c (g := (mkF m 99 #[.val (.int p1), .val (.int p2), .val (.int p3), .val (.int (p3 &&& (3 : Int32))), .val (.int p1), .val (.int p2), .val (.ref b105), .val (.ref r141), .val (.int (0 : Int32)), .unset, .unset] [(.ref r141)])) rfl (by rw [hml]; rfl) (Steps.refl _) (argsL := []) (rest := []) (lenOf own_pd143 rfl) rfl (by show 2 * 0 + _ ≤ _; exact Nat.le_of_eq rfl) (hb hby at_99) (fun _ _ => ⟨rfl, rfl, (by decide : 4 + 0 ≤ _), (by decide : 6 + 0 ≤ _)⟩)
            dsimp only [Pt.U, Pt.locs, Pt.cells, Pt.slots] at X148 l148 y148 z148 st148 hQ148
            subst l148 y148 z148
            obtain ⟨hv148, N148q, e148⟩ := hQ148
            have N149 := Fr.app N147 N148q
            rw [show (own_f15) = (2 : Int32) from by first | rfl | decide | simp [own_f15]] at hv148
            subst hv148
            obtain ⟨cq150, kq150, q150a, q150b, q150c⟩ := isOf hZ e148 Q141_4
            obtain ⟨v150, _, ⟨T150, L150, k150, n150⟩, -, X150, ⟨Lc150, hQ150, l150, y150, z150⟩, st150⟩ := X148.interfaceBack hx (xi := (⟨"java/util/List", "get", "(I)Ljava/lang/Object;"⟩ : MethodName)) (y := (⟨"java/util/ImmutableCollections$List12", "get", "(I)Ljava/lang/Object;"⟩ : MethodName)) hown (mvT hZ (hw _ (List.mem_of_getElem? (i := 99) rfl))) (mvT hZ (hw _ (List.mem_of_getElem? (i := 100) rfl))) (mvT hZ (hw _ (List.mem_of_getElem? (i := 101) rfl))) (mvT hZ (hw _ (List.mem_of_getElem? (i := 102) rfl))) (mvT hZ (hw _ (List.mem_of_getElem? (i := 103) rfl))) (mvT hZ (hw _ (List.mem_of_getElem? (i := 104) rfl))) (mvT hZ (hw _ (List.mem_of_getElem? (i := 105) rfl))) (mvT hZ (hw _ (List.mem_of_getElem? (i := 96) rfl))) (by decide) (backOf (W := 0) (own_v0_rm16 l Z a0 hw [] r141 x1141 T141.heap n0 Z146 Q141_5) hZ (hw _ (List.mem_of_getElem? (i := 106) rfl)) (hw _ (List.mem_of_getElem? (i := 60) rfl)) (by decide) (by decide)) q150a q150b q150c (g := (mkF m 113 #[.val (.int p1), .val (.int p2), .val (.int p3), .val (.int (p3 &&& (3 : Int32))), .val (.int p1), .val (.int p2), .val (.ref b105), .val (.ref r141), .val (.int (0 : Int32)), .unset, .unset] [(.int (0 : Int32)), (.ref r141)])) rfl (by rw [hml]; rfl) (Steps.refl _) (argsL := [(.int (0 : Int32))]) (rest := []) (lenOf own_pd144 rfl) rfl (by show 2 * 0 + _ ≤ _; exact Nat.le_of_eq rfl) (hb hby at_113) (fun _ _ => ⟨rfl, e148, (by decide : 4 + 0 ≤ _), (by decide : 6 + 0 ≤ _)⟩)
            dsimp only [Pt.U, Pt.locs, Pt.cells, Pt.slots] at X150 l150 y150 z150 st150 hQ150
            subst l150 y150 z150
            obtain ⟨hv150, N150q, e150⟩ := hQ150
            have N151 := Fr.app N149 N150q
            rw [show (own_v0_f16 x1141) = x1141 from by first | rfl | decide | simp [own_v0_f16]] at hv150
            subst hv150
            obtain ⟨cq152, kq152, q152a, q152b, q152c⟩ := isOf hZ e150 Q141_4
            obtain ⟨v152, _, ⟨T152, L152, k152, n152⟩, -, X152, ⟨Lc152, hQ152, l152, y152, z152⟩, st152⟩ := X150.interfaceBack hx (xi := (⟨"java/util/List", "get", "(I)Ljava/lang/Object;"⟩ : MethodName)) (y := (⟨"java/util/ImmutableCollections$List12", "get", "(I)Ljava/lang/Object;"⟩ : MethodName)) hown (mvT hZ (hw _ (List.mem_of_getElem? (i := 99) rfl))) (mvT hZ (hw _ (List.mem_of_getElem? (i := 100) rfl))) (mvT hZ (hw _ (List.mem_of_getElem? (i := 101) rfl))) (mvT hZ (hw _ (List.mem_of_getElem? (i := 102) rfl))) (mvT hZ (hw _ (List.mem_of_getElem? (i := 103) rfl))) (mvT hZ (hw _ (List.mem_of_getElem? (i := 104) rfl))) (mvT hZ (hw _ (List.mem_of_getElem? (i := 105) rfl))) (mvT hZ (hw _ (List.mem_of_getElem? (i := 96) rfl))) (by decide) (backOf (W := 0) (own_v1_rm16 l Z a0 hw [] r141 x2141 w_EMPTY T141.heap n0 Z146 O142 (Exa.ne Q141_2 (E_w_EMPTY.ext O142.2) (by decide)) Q141_6 S_EMPTY) hZ (hw _ (List.mem_of_getElem? (i := 106) rfl)) (hw _ (List.mem_of_getElem? (i := 60) rfl)) (by decide) (by decide)) q152a q152b q152c (g := (mkF m 123 #[.val (.int p1), .val (.int p2), .val (.int p3), .val (.int (p3 &&& (3 : Int32))), .val (.int p1), .val (.int p2), .val (.ref b105), .val (.ref r141), .val (.int (0 : Int32)), .val (.ref x1141), .unset] [(.int (1 : Int32)), (.ref r141)])) rfl (by rw [hml]; rfl) (Steps.refl _) (argsL := [(.int (1 : Int32))]) (rest := []) (lenOf own_pd144 rfl) rfl (by show 2 * 0 + _ ≤ _; exact Nat.le_of_eq rfl) (hb hby at_123) (fun _ _ => ⟨rfl, e150, (by decide : 4 + 0 ≤ _), (by decide : 6 + 0 ≤ _)⟩)
            dsimp only [Pt.U, Pt.locs, Pt.cells, Pt.slots] at X152 l152 y152 z152 st152 hQ152
            subst l152 y152 z152
            obtain ⟨hv152, N152q, e152⟩ := hQ152
            have N153 := Fr.app N151 N152q
            rw [show (own_v1_f16 x2141) = x2141 from by first | rfl | decide | simp [own_v1_f16]] at hv152
            subst hv152
            obtain ⟨T154, X154, e154, st154⟩ := instY X152 hx hZ hown (hw _ (List.mem_of_getElem? (i := 107) rfl)) e152 (Ins.self Q141_0) (g := (mkF m 132 #[.val (.int p1), .val (.int p2), .val (.int p3), .val (.int (p3 &&& (3 : Int32))), .val (.int p1), .val (.int p2), .val (.ref b105), .val (.ref r141), .val (.int (0 : Int32)), .val (.ref x1141), .val (.ref x2141)] [(.ref x1141)])) rfl rfl (hb hby at_132)
            obtain ⟨T155, X155, e155, st155⟩ := instY X154 hx hZ hown (hw _ (List.mem_of_getElem? (i := 107) rfl)) e154 (Ins.self Q141_2) (g := (mkF m 140 #[.val (.int p1), .val (.int p2), .val (.int p3), .val (.int (p3 &&& (3 : Int32))), .val (.int p1), .val (.int p2), .val (.ref b105), .val (.ref r141), .val (.int (0 : Int32)), .val (.ref x1141), .val (.ref x2141)] [(.ref x2141)])) rfl rfl (hb hby at_140)
            obtain ⟨T156, X156, e156, st156⟩ := castY X155 hx hZ hown (hw _ (List.mem_of_getElem? (i := 107) rfl)) e155 (Ins.self Q141_0) (g := (mkF m 150 #[.val (.int p1), .val (.int p2), .val (.int p3), .val (.int (p3 &&& (3 : Int32))), .val (.int p1), .val (.int p2), .val (.ref b105), .val (.ref r141), .val (.int (0 : Int32)), .val (.ref x1141), .val (.ref x2141)] [(.ref x1141)])) rfl rfl (hb hby at_150)
            obtain ⟨cq157, kq157, q157a, q157b, q157c⟩ := isOf hZ e156 Q141_0
            obtain ⟨v157, _, ⟨T157, L157, k157, n157⟩, -, X157, ⟨Lc157, hQ157, l157, y157, z157⟩, st157⟩ := X156.virtualBack hx (y := (⟨"java/lang/Integer", "intValue", "()I"⟩ : MethodName)) (z := (⟨"java/lang/Integer", "intValue", "()I"⟩ : MethodName)) hown (mvT hZ (hw _ (List.mem_of_getElem? (i := 109) rfl))) (mvT hZ (hw _ (List.mem_of_getElem? (i := 110) rfl))) (notFace_of_selects (args := #[]) (mvT hZ (hw _ (List.mem_of_getElem? (i := 112) rfl)))) (mvT hZ (hw _ (List.mem_of_getElem? (i := 112) rfl))) (mvT hZ (hw _ (List.mem_of_getElem? (i := 111) rfl))) (by decide) (backOf (W := 0) (own_rm17 l Z a0 hw [] x1141 p1 T141.heap n0 Z146 Q141_1) hZ (hw _ (List.mem_of_getElem? (i := 113) rfl)) (hw _ (List.mem_of_getElem? (i := 50) rfl)) (by decide) (by decide)) q157a q157c (g := (mkF m 153 #[.val (.int p1), .val (.int p2), .val (.int p3), .val (.int (p3 &&& (3 : Int32))), .val (.int p1), .val (.int p2), .val (.ref b105), .val (.ref r141), .val (.int (0 : Int32)), .val (.ref x1141), .val (.ref x2141)] [(.ref x1141)])) rfl (by rw [hml]; rfl) (Steps.refl _) (argsL := []) (rest := []) (lenOf own_pd143 rfl) rfl (by show 2 * 0 + _ ≤ _; exact Nat.le_of_eq rfl) (hb hby at_153) (fun _ _ => ⟨rfl, e156, (by decide : 4 + 0 ≤ _), (by decide : 6 + 0 ≤ _)⟩)
            dsimp only [Pt.U, Pt.locs, Pt.cells, Pt.slots] at X157 l157 y157 z157 st157 hQ157
            subst l157 y157 z157
            obtain ⟨hv157, N157q, e157⟩ := hQ157
            have N158 := Fr.app N153 N157q
            rw [show (own_f17 p1) = p1 from by first | rfl | decide | simp [own_f17]] at hv157
            subst hv157
            obtain ⟨T159, X159, e159, st159⟩ := castY X157 hx hZ hown (hw _ (List.mem_of_getElem? (i := 107) rfl)) e157 (Ins.self Q141_2) (g := (mkF m 163 #[.val (.int p1), .val (.int p2), .val (.int p3), .val (.int (p3 &&& (3 : Int32))), .val (.int p1), .val (.int p2), .val (.ref b105), .val (.ref r141), .val (.int (0 : Int32)), .val (.ref x1141), .val (.ref x2141)] [(.ref x2141)])) rfl rfl (hb hby at_163)
            obtain ⟨cq160, kq160, q160a, q160b, q160c⟩ := isOf hZ e159 Q141_2
            obtain ⟨v160, _, ⟨T160, L160, k160, n160⟩, -, X160, ⟨Lc160, hQ160, l160, y160, z160⟩, st160⟩ := X159.virtualBack hx (y := (⟨"java/lang/Integer", "intValue", "()I"⟩ : MethodName)) (z := (⟨"java/lang/Integer", "intValue", "()I"⟩ : MethodName)) hown (mvT hZ (hw _ (List.mem_of_getElem? (i := 109) rfl))) (mvT hZ (hw _ (List.mem_of_getElem? (i := 110) rfl))) (notFace_of_selects (args := #[]) (mvT hZ (hw _ (List.mem_of_getElem? (i := 112) rfl)))) (mvT hZ (hw _ (List.mem_of_getElem? (i := 112) rfl))) (mvT hZ (hw _ (List.mem_of_getElem? (i := 111) rfl))) (by decide) (backOf (W := 0) (own_rm17 l Z a0 hw [] x2141 p2 T141.heap n0 Z146 Q141_3) hZ (hw _ (List.mem_of_getElem? (i := 113) rfl)) (hw _ (List.mem_of_getElem? (i := 50) rfl)) (by decide) (by decide)) q160a q160c (g := (mkF m 166 #[.val (.int p1), .val (.int p2), .val (.int p3), .val (.int (p3 &&& (3 : Int32))), .val (.int p1), .val (.int p2), .val (.ref b105), .val (.ref r141), .val (.int (0 : Int32)), .val (.ref x1141), .val (.ref x2141)] [(.ref x2141)])) rfl (by rw [hml]; rfl) (Steps.refl _) (argsL := []) (rest := []) (lenOf own_pd143 rfl) rfl (by show 2 * 0 + _ ≤ _; exact Nat.le_of_eq rfl) (hb hby at_166) (fun _ _ => ⟨rfl, e159, (by decide : 4 + 0 ≤ _), (by decide : 6 + 0 ≤ _)⟩)
            dsimp only [Pt.U, Pt.locs, Pt.cells, Pt.slots] at X160 l160 y160 z160 st160 hQ160
            subst l160 y160 z160
            obtain ⟨hv160, N160q, e160⟩ := hQ160
            have N161 := Fr.app N158 N160q
            rw [show (own_f17 p2) = p2 from by first | rfl | decide | simp [own_f17]] at hv160
            subst hv160
            obtain ⟨fs, hr, hrun, hended, hW, hsame⟩ := X160.leave (hlocks := hlk) (v := some (.int (1 : Int32))) (fun h => by rw [Bd.returns] at h; cases h)
            refine ⟨_, _, k115 _ ?_, hrun, hended, _, _, rfl, ?_, ⟨_, rfl⟩, hW, hsame.mono (by decide) (by decide)⟩
            · show Steps p.tables e below (T108.setTop (mkF m 52 #[.val (.int p1), .val (.int p2), .val (.int p3), .val (.int (p3 &&& (3 : Int32))), .val (.int p1), .val (.int p2), .val (.ref b105), .unset, .unset, .unset, .unset] [(.ref b105)])) _
              refine st141.trans ?_
              show Steps p.tables e below (T141.setTop (mkF m 55 #[.val (.int p1), .val (.int p2), .val (.int p3), .val (.int (p3 &&& (3 : Int32))), .val (.int p1), .val (.int p2), .val (.ref b105), .unset, .unset, .unset, .unset] [(.ref r141)])) _
              refine XS.astore X141.here hx rfl (hb hby at_55) rfl rfl (l' := #[.val (.int p1), .val (.int p2), .val (.int p3), .val (.int (p3 &&& (3 : Int32))), .val (.int p1), .val (.int p2), .val (.ref b105), .val (.ref r141), .unset, .unset, .unset]) rfl ?_
              show Steps p.tables e below (T141.setTop (mkF m 57 #[.val (.int p1), .val (.int p2), .val (.int p3), .val (.int (p3 &&& (3 : Int32))), .val (.int p1), .val (.int p2), .val (.ref b105), .val (.ref r141), .unset, .unset, .unset] [])) _
              refine XS.iload X141.here hx rfl (hb hby at_57) rfl ?_
              show Steps p.tables e below (T141.setTop (mkF m 59 #[.val (.int p1), .val (.int p2), .val (.int p3), .val (.int (p3 &&& (3 : Int32))), .val (.int p1), .val (.int p2), .val (.ref b105), .val (.ref r141), .unset, .unset, .unset] [(.int p1)])) _
              refine XS.ifYes X141.here hx rfl (pc0 := 59) (pc' := 73) rfl (hb hby at_59) rfl ((if0 _ _).trans (feq hc7).2) (by decide) (by decide) ?_
              show Steps p.tables e below (T141.setTop (mkF m 73 #[.val (.int p1), .val (.int p2), .val (.int p3), .val (.int (p3 &&& (3 : Int32))), .val (.int p1), .val (.int p2), .val (.ref b105), .val (.ref r141), .unset, .unset, .unset] [])) _
              refine XS.iconst X141.here hx rfl (hb hby at_73) ?_
              show Steps p.tables e below (T141.setTop (mkF m 74 #[.val (.int p1), .val (.int p2), .val (.int p3), .val (.int (p3 &&& (3 : Int32))), .val (.int p1), .val (.int p2), .val (.ref b105), .val (.ref r141), .unset, .unset, .unset] [(.int (0 : Int32))])) _
              refine XS.istore X141.here hx rfl (hb hby at_74) rfl (l' := #[.val (.int p1), .val (.int p2), .val (.int p3), .val (.int (p3 &&& (3 : Int32))), .val (.int p1), .val (.int p2), .val (.ref b105), .val (.ref r141), .val (.int (0 : Int32)), .unset, .unset]) rfl ?_
              show Steps p.tables e below (T141.setTop (mkF m 76 #[.val (.int p1), .val (.int p2), .val (.int p3), .val (.int (p3 &&& (3 : Int32))), .val (.int p1), .val (.int p2), .val (.ref b105), .val (.ref r141), .val (.int (0 : Int32)), .unset, .unset] [])) _
              refine XS.iload X141.here hx rfl (hb hby at_76) rfl ?_
              show Steps p.tables e below (T141.setTop (mkF m 78 #[.val (.int p1), .val (.int p2), .val (.int p3), .val (.int (p3 &&& (3 : Int32))), .val (.int p1), .val (.int p2), .val (.ref b105), .val (.ref r141), .val (.int (0 : Int32)), .unset, .unset] [(.int (0 : Int32))])) _
              refine XS.ifYes X141.here hx rfl (pc0 := 78) (pc' := 97) rfl (hb hby at_78) rfl ((if0 _ _).trans (teq (by decide : (0 : Int32) = (0 : Int32))).1) (by decide) (by decide) ?_
              show Steps p.tables e below (T141.setTop (mkF m 97 #[.val (.int p1), .val (.int p2), .val (.int p3), .val (.int (p3 &&& (3 : Int32))), .val (.int p1), .val (.int p2), .val (.ref b105), .val (.ref r141), .val (.int (0 : Int32)), .unset, .unset] [])) _
              refine XS.aload X141.here hx rfl (hb hby at_97) rfl rfl ?_
              show Steps p.tables e below (T141.setTop (mkF m 99 #[.val (.int p1), .val (.int p2), .val (.int p3), .val (.int (p3 &&& (3 : Int32))), .val (.int p1), .val (.int p2), .val (.ref b105), .val (.ref r141), .val (.int (0 : Int32)), .unset, .unset] [(.ref r141)])) _
              refine st148.trans ?_
              show Steps p.tables e below (T148.setTop (mkF m 104 #[.val (.int p1), .val (.int p2), .val (.int p3), .val (.int (p3 &&& (3 : Int32))), .val (.int p1), .val (.int p2), .val (.ref b105), .val (.ref r141), .val (.int (0 : Int32)), .unset, .unset] [(.int (2 : Int32))])) _
              refine XS.iconst X148.here hx rfl (hb hby at_104) ?_
              show Steps p.tables e below (T148.setTop (mkF m 105 #[.val (.int p1), .val (.int p2), .val (.int p3), .val (.int (p3 &&& (3 : Int32))), .val (.int p1), .val (.int p2), .val (.ref b105), .val (.ref r141), .val (.int (0 : Int32)), .unset, .unset] [(.int (2 : Int32)), (.int (2 : Int32))])) _
              refine XS.icmpYes X148.here hx rfl (pc0 := 105) (pc' := 110) rfl (hb hby at_105) rfl (teq (by decide : (2 : Int32) = (2 : Int32))).1 (by decide) (by decide) ?_
              show Steps p.tables e below (T148.setTop (mkF m 110 #[.val (.int p1), .val (.int p2), .val (.int p3), .val (.int (p3 &&& (3 : Int32))), .val (.int p1), .val (.int p2), .val (.ref b105), .val (.ref r141), .val (.int (0 : Int32)), .unset, .unset] [])) _
              refine XS.aload X148.here hx rfl (hb hby at_110) rfl rfl ?_
              show Steps p.tables e below (T148.setTop (mkF m 112 #[.val (.int p1), .val (.int p2), .val (.int p3), .val (.int (p3 &&& (3 : Int32))), .val (.int p1), .val (.int p2), .val (.ref b105), .val (.ref r141), .val (.int (0 : Int32)), .unset, .unset] [(.ref r141)])) _
              refine XS.iconst X148.here hx rfl (hb hby at_112) ?_
              show Steps p.tables e below (T148.setTop (mkF m 113 #[.val (.int p1), .val (.int p2), .val (.int p3), .val (.int (p3 &&& (3 : Int32))), .val (.int p1), .val (.int p2), .val (.ref b105), .val (.ref r141), .val (.int (0 : Int32)), .unset, .unset] [(.int (0 : Int32)), (.ref r141)])) _
              refine st150.trans ?_
              show Steps p.tables e below (T150.setTop (mkF m 118 #[.val (.int p1), .val (.int p2), .val (.int p3), .val (.int (p3 &&& (3 : Int32))), .val (.int p1), .val (.int p2), .val (.ref b105), .val (.ref r141), .val (.int (0 : Int32)), .unset, .unset] [(.ref x1141)])) _
              refine XS.astore X150.here hx rfl (hb hby at_118) rfl rfl (l' := #[.val (.int p1), .val (.int p2), .val (.int p3), .val (.int (p3 &&& (3 : Int32))), .val (.int p1), .val (.int p2), .val (.ref b105), .val (.ref r141), .val (.int (0 : Int32)), .val (.ref x1141), .unset]) rfl ?_
              show Steps p.tables e below (T150.setTop (mkF m 120 #[.val (.int p1), .val (.int p2), .val (.int p3), .val (.int (p3 &&& (3 : Int32))), .val (.int p1), .val (.int p2), .val (.ref b105), .val (.ref r141), .val (.int (0 : Int32)), .val (.ref x1141), .unset] [])) _
              refine XS.aload X150.here hx rfl (hb hby at_120) rfl rfl ?_
              show Steps p.tables e below (T150.setTop (mkF m 122 #[.val (.int p1), .val (.int p2), .val (.int p3), .val (.int (p3 &&& (3 : Int32))), .val (.int p1), .val (.int p2), .val (.ref b105), .val (.ref r141), .val (.int (0 : Int32)), .val (.ref x1141), .unset] [(.ref r141)])) _
              refine XS.iconst X150.here hx rfl (hb hby at_122) ?_
              show Steps p.tables e below (T150.setTop (mkF m 123 #[.val (.int p1), .val (.int p2), .val (.int p3), .val (.int (p3 &&& (3 : Int32))), .val (.int p1), .val (.int p2), .val (.ref b105), .val (.ref r141), .val (.int (0 : Int32)), .val (.ref x1141), .unset] [(.int (1 : Int32)), (.ref r141)])) _
              refine st152.trans ?_
              show Steps p.tables e below (T152.setTop (mkF m 128 #[.val (.int p1), .val (.int p2), .val (.int p3), .val (.int (p3 &&& (3 : Int32))), .val (.int p1), .val (.int p2), .val (.ref b105), .val (.ref r141), .val (.int (0 : Int32)), .val (.ref x1141), .unset] [(.ref x2141)])) _
              refine XS.astore X152.here hx rfl (hb hby at_128) rfl rfl (l' := #[.val (.int p1), .val (.int p2), .val (.int p3), .val (.int (p3 &&& (3 : Int32))), .val (.int p1), .val (.int p2), .val (.ref b105), .val (.ref r141), .val (.int (0 : Int32)), .val (.ref x1141), .val (.ref x2141)]) rfl ?_
              show Steps p.tables e below (T152.setTop (mkF m 130 #[.val (.int p1), .val (.int p2), .val (.int p3), .val (.int (p3 &&& (3 : Int32))), .val (.int p1), .val (.int p2), .val (.ref b105), .val (.ref r141), .val (.int (0 : Int32)), .val (.ref x1141), .val (.ref x2141)] [])) _
              refine XS.aload X152.here hx rfl (hb hby at_130) rfl rfl ?_
              show Steps p.tables e below (T152.setTop (mkF m 132 #[.val (.int p1), .val (.int p2), .val (.int p3), .val (.int (p3 &&& (3 : Int32))), .val (.int p1), .val (.int p2), .val (.ref b105), .val (.ref r141), .val (.int (0 : Int32)), .val (.ref x1141), .val (.ref x2141)] [(.ref x1141)])) _
              refine st154 _ ?_
              show Steps p.tables e below (T154.setTop (mkF m 135 #[.val (.int p1), .val (.int p2), .val (.int p3), .val (.int (p3 &&& (3 : Int32))), .val (.int p1), .val (.int p2), .val (.ref b105), .val (.ref r141), .val (.int (0 : Int32)), .val (.ref x1141), .val (.ref x2141)] [(.int (1 : Int32))])) _
              refine XS.ifNo X154.here hx rfl (hb hby at_135) rfl ((if0 _ _).trans (feq (by decide : ¬ ((1 : Int32) = (0 : Int32)))).1) ?_
              show Steps p.tables e below (T154.setTop (mkF m 138 #[.val (.int p1), .val (.int p2), .val (.int p3), .val (.int (p3 &&& (3 : Int32))), .val (.int p1), .val (.int p2), .val (.ref b105), .val (.ref r141), .val (.int (0 : Int32)), .val (.ref x1141), .val (.ref x2141)] [])) _
              refine XS.aload X154.here hx rfl (hb hby at_138) rfl rfl ?_
              show Steps p.tables e below (T154.setTop (mkF m 140 #[.val (.int p1), .val (.int p2), .val (.int p3), .val (.int (p3 &&& (3 : Int32))), .val (.int p1), .val (.int p2), .val (.ref b105), .val (.ref r141), .val (.int (0 : Int32)), .val (.ref x1141), .val (.ref x2141)] [(.ref x2141)])) _
              refine st155 _ ?_
              show Steps p.tables e below (T155.setTop (mkF m 143 #[.val (.int p1), .val (.int p2), .val (.int p3), .val (.int (p3 &&& (3 : Int32))), .val (.int p1), .val (.int p2), .val (.ref b105), .val (.ref r141), .val (.int (0 : Int32)), .val (.ref x1141), .val (.ref x2141)] [(.int (1 : Int32))])) _
              refine XS.ifYes X155.here hx rfl (pc0 := 143) (pc' := 148) rfl (hb hby at_143) rfl ((if0 _ _).trans (feq (by decide : ¬ ((1 : Int32) = (0 : Int32)))).2) (by decide) (by decide) ?_
              show Steps p.tables e below (T155.setTop (mkF m 148 #[.val (.int p1), .val (.int p2), .val (.int p3), .val (.int (p3 &&& (3 : Int32))), .val (.int p1), .val (.int p2), .val (.ref b105), .val (.ref r141), .val (.int (0 : Int32)), .val (.ref x1141), .val (.ref x2141)] [])) _
              refine XS.aload X155.here hx rfl (hb hby at_148) rfl rfl ?_
              show Steps p.tables e below (T155.setTop (mkF m 150 #[.val (.int p1), .val (.int p2), .val (.int p3), .val (.int (p3 &&& (3 : Int32))), .val (.int p1), .val (.int p2), .val (.ref b105), .val (.ref r141), .val (.int (0 : Int32)), .val (.ref x1141), .val (.ref x2141)] [(.ref x1141)])) _
              refine st156 _ ?_
              show Steps p.tables e below (T156.setTop (mkF m 153 #[.val (.int p1), .val (.int p2), .val (.int p3), .val (.int (p3 &&& (3 : Int32))), .val (.int p1), .val (.int p2), .val (.ref b105), .val (.ref r141), .val (.int (0 : Int32)), .val (.ref x1141), .val (.ref x2141)] [(.ref x1141)])) _
              refine st157.trans ?_
              show Steps p.tables e below (T157.setTop (mkF m 156 #[.val (.int p1), .val (.int p2), .val (.int p3), .val (.int (p3 &&& (3 : Int32))), .val (.int p1), .val (.int p2), .val (.ref b105), .val (.ref r141), .val (.int (0 : Int32)), .val (.ref x1141), .val (.ref x2141)] [(.int p1)])) _
              refine XS.iload X157.here hx rfl (hb hby at_156) rfl ?_
              show Steps p.tables e below (T157.setTop (mkF m 158 #[.val (.int p1), .val (.int p2), .val (.int p3), .val (.int (p3 &&& (3 : Int32))), .val (.int p1), .val (.int p2), .val (.ref b105), .val (.ref r141), .val (.int (0 : Int32)), .val (.ref x1141), .val (.ref x2141)] [(.int p1), (.int p1)])) _
              refine XS.icmpNo X157.here hx rfl (hb hby at_158) rfl (teq (rfl : p1 = p1)).2 ?_
              show Steps p.tables e below (T157.setTop (mkF m 161 #[.val (.int p1), .val (.int p2), .val (.int p3), .val (.int (p3 &&& (3 : Int32))), .val (.int p1), .val (.int p2), .val (.ref b105), .val (.ref r141), .val (.int (0 : Int32)), .val (.ref x1141), .val (.ref x2141)] [])) _
              refine XS.aload X157.here hx rfl (hb hby at_161) rfl rfl ?_
              show Steps p.tables e below (T157.setTop (mkF m 163 #[.val (.int p1), .val (.int p2), .val (.int p3), .val (.int (p3 &&& (3 : Int32))), .val (.int p1), .val (.int p2), .val (.ref b105), .val (.ref r141), .val (.int (0 : Int32)), .val (.ref x1141), .val (.ref x2141)] [(.ref x2141)])) _
              refine st159 _ ?_
              show Steps p.tables e below (T159.setTop (mkF m 166 #[.val (.int p1), .val (.int p2), .val (.int p3), .val (.int (p3 &&& (3 : Int32))), .val (.int p1), .val (.int p2), .val (.ref b105), .val (.ref r141), .val (.int (0 : Int32)), .val (.ref x1141), .val (.ref x2141)] [(.ref x2141)])) _
              refine st160.trans ?_
              show Steps p.tables e below (T160.setTop (mkF m 169 #[.val (.int p1), .val (.int p2), .val (.int p3), .val (.int (p3 &&& (3 : Int32))), .val (.int p1), .val (.int p2), .val (.ref b105), .val (.ref r141), .val (.int (0 : Int32)), .val (.ref x1141), .val (.ref x2141)] [(.int p2)])) _
              refine XS.iload X160.here hx rfl (hb hby at_169) rfl ?_
              show Steps p.tables e below (T160.setTop (mkF m 171 #[.val (.int p1), .val (.int p2), .val (.int p3), .val (.int (p3 &&& (3 : Int32))), .val (.int p1), .val (.int p2), .val (.ref b105), .val (.ref r141), .val (.int (0 : Int32)), .val (.ref x1141), .val (.ref x2141)] [(.int p2), (.int p2)])) _
              refine XS.icmpNo X160.here hx rfl (hb hby at_171) rfl (teq (rfl : p2 = p2)).2 ?_
              show Steps p.tables e below (T160.setTop (mkF m 174 #[.val (.int p1), .val (.int p2), .val (.int p3), .val (.int (p3 &&& (3 : Int32))), .val (.int p1), .val (.int p2), .val (.ref b105), .val (.ref r141), .val (.int (0 : Int32)), .val (.ref x1141), .val (.ref x2141)] [])) _
              refine XS.iconst X160.here hx rfl (hb hby at_174) ?_
              show Steps p.tables e below (T160.setTop (mkF m 175 #[.val (.int p1), .val (.int p2), .val (.int p3), .val (.int (p3 &&& (3 : Int32))), .val (.int p1), .val (.int p2), .val (.ref b105), .val (.ref r141), .val (.int (0 : Int32)), .val (.ref x1141), .val (.ref x2141)] [(.int (1 : Int32))])) _
              refine XS.goto X160.here hx rfl (pc0 := 175) (pc' := 179) rfl (hb hby at_175) (by decide) (by decide) ?_
              show Steps p.tables e below (T160.setTop (mkF m 179 #[.val (.int p1), .val (.int p2), .val (.int p3), .val (.int (p3 &&& (3 : Int32))), .val (.int p1), .val (.int p2), .val (.ref b105), .val (.ref r141), .val (.int (0 : Int32)), .val (.ref x1141), .val (.ref x2141)] [(.int (1 : Int32))])) _
              exact retN X160 hx (t := .boolean) Bd.returns (by simp) (hb hby at_179) hr
            · show own_Q0 Z p1 p2 p3 clc w_EMPTY_LIST w_elements_w_EMPTY_LIST k_w_elements_w_EMPTY_LIST w_cache w_EMPTY h0 n0 _ T160.heap _
              rw [e160]
              exact ⟨(by rw [own_f0, if_neg hc1, if_neg hc2, if_neg hc5, if_neg hc7, if_pos hc9]), N161⟩
          ·
            obtain ⟨cq162, kq162, q162a, q162b, q162c⟩ := isOf hZ rfl Q108_0
            obtain ⟨v162, _, ⟨T162, L162, k162, n162⟩, -, X162, ⟨Lc162, hQ162, l162, y162, z162⟩, st162⟩ := X108.virtualBack hx (y := (⟨"com/example/fetch_plan/fetchplan/Page", "parameters", "()Ljava/util/List;"⟩ : MethodName)) (z := (⟨"com/example/fetch_plan/fetchplan/Page", "parameters", "()Ljava/util/List;"⟩ : MethodName)) hown (mvT hZ (hw _ (List.mem_of_getElem? (i := 19) rfl))) (mvT hZ (hw _ (List.mem_of_getElem? (i := 20) rfl))) (notFace_of_selects (args := #[]) (mvT hZ (hw _ (List.mem_of_getElem? (i := 22) rfl)))) (mvT hZ (hw _ (List.mem_of_getElem? (i := 22) rfl))) (mvT hZ (hw _ (List.mem_of_getElem? (i := 21) rfl))) (by decide) (backOf (W := 0) (own_vC_rm4 l Z a0 hw [] b105 clc p1 p2 w_cache T108.heap n0 Z113 O109 hc7 Hc Q108_1 Q108_2 Q108_0 S_high S_cache) hZ (hw _ (List.mem_of_getElem? (i := 23) rfl)) (hw _ (List.mem_of_getElem? (i := 3) rfl)) (by decide) (by decide)) q162a q162c (g := (mkF m 52 #[.val (.int p1), .val (.int p2), .val (.int p3), .val (.int (p3 &&& (3 : Int32))), .val (.int p1), .val (.int p2), .val (.ref b105), .unset, .unset, .unset, .unset] [(.ref b105)])) rfl (by rw [hml]; rfl) (Steps.refl _) (argsL := []) (rest := []) (lenOf own_pd101 rfl) rfl (by show 2 * 0 + _ ≤ _; exact Nat.le_of_eq rfl) (hb hby at_52) (fun _ _ => ⟨rfl, rfl, (by decide : 1 + 3 ≤ _), (by decide : 2 + 4 ≤ _)⟩)
            dsimp only [Pt.U, Pt.locs, Pt.cells, Pt.slots] at X162 l162 y162 z162 st162 hQ162
            subst l162 y162 z162
            obtain ⟨r162, x1162, x2162, rfl, N162q, K162, hr162, Q162_0, Q162_1, Q162_2, Q162_3, Q162_4, Q162_5, Q162_6⟩ := hQ162
            have ne_w_EMPTY_LIST_r162 : w_EMPTY_LIST ≠ r162 := Nat.ne_of_lt (Nat.lt_of_lt_of_le (F_elements_w_EMPTY_LIST.ext O109.2).lt hr162)
            have ne_w_elements_w_EMPTY_LIST_r162 : w_elements_w_EMPTY_LIST ≠ r162 := Nat.ne_of_lt (Nat.lt_of_lt_of_le (V_w_elements_w_EMPTY_LIST.ext O109.2).lt hr162)
            have ne_w_EMPTY_r162 : w_EMPTY ≠ r162 := Nat.ne_of_lt (Nat.lt_of_lt_of_le (E_w_EMPTY.ext O109.2).lt hr162)
            have ne_b105_r162 : b105 ≠ r162 := Nat.ne_of_lt (Nat.lt_of_lt_of_le Q108_0.lt hr162)
            have g_r162 : n0 ≤ r162 := Nat.le_trans Z113 hr162
            have O163 := O109.keep K162 all0
            have f164 := Q108_0.keep K162
            have f165 := Q108_1.keep K162 nin0
            have f166 := Q108_2.keep K162 nin0
            have Z167 := Nat.le_trans Z113 K162.1
            have N168 := Fr.app N114 N162q
            obtain ⟨cq169, kq169, q169a, q169b, q169c⟩ := isOf hZ rfl Q162_4
            obtain ⟨v169, _, ⟨T169, L169, k169, n169⟩, -, X169, ⟨Lc169, hQ169, l169, y169, z169⟩, st169⟩ := X162.interfaceBack hx (xi := (⟨"java/util/List", "size", "()I"⟩ : MethodName)) (y := (⟨"java/util/ImmutableCollections$List12", "size", "()I"⟩ : MethodName)) hown (mvT hZ (hw _ (List.mem_of_getElem? (i := 36) rfl))) (mvT hZ (hw _ (List.mem_of_getElem? (i := 37) rfl))) (mvT hZ (hw _ (List.mem_of_getElem? (i := 38) rfl))) (mvT hZ (hw _ (List.mem_of_getElem? (i := 92) rfl))) (mvT hZ (hw _ (List.mem_of_getElem? (i := 93) rfl))) (mvT hZ (hw _ (List.mem_of_getElem? (i := 94) rfl))) (mvT hZ (hw _ (List.mem_of_getElem? (i := 95) rfl))) (mvT hZ (hw _ (List.mem_of_getElem? (i := 96) rfl))) (by decide) (backOf (W := 0) (own_rm15 l Z a0 hw [] r162 x2162 w_EMPTY T162.heap n0 Z167 O163 (Exa.ne Q162_2 (E_w_EMPTY.ext O163.2) (by decide)) Q162_6 S_EMPTY) hZ (hw _ (List.mem_of_getElem? (i := 97) rfl)) (hw _ (List.mem_of_getElem? (i := 60) rfl)) (by decide) (by decide)) q169a q169b q169c (g := (mkF m 99 #[.val (.int p1), .val (.int p2), .val (.int p3), .val (.int (p3 &&& (3 : Int32))), .val (.int p1), .val (.int p2), .val (.ref b105), .val (.ref r162), .val (.int (0 : Int32)), .unset, .unset] [(.ref r162)])) rfl (by rw [hml]; rfl) (Steps.refl _) (argsL := []) (rest := []) (lenOf own_pd143 rfl) rfl (by show 2 * 0 + _ ≤ _; exact Nat.le_of_eq rfl) (hb hby at_99) (fun _ _ => ⟨rfl, rfl, (by decide : 4 + 0 ≤ _), (by decide : 6 + 0 ≤ _)⟩)
            dsimp only [Pt.U, Pt.locs, Pt.cells, Pt.slots] at X169 l169 y169 z169 st169 hQ169
            subst l169 y169 z169
            obtain ⟨hv169, N169q, e169⟩ := hQ169
            have N170 := Fr.app N168 N169q
            rw [show (own_f15) = (2 : Int32) from by first | rfl | decide | simp [own_f15]] at hv169
            subst hv169
            obtain ⟨cq171, kq171, q171a, q171b, q171c⟩ := isOf hZ e169 Q162_4
            obtain ⟨v171, _, ⟨T171, L171, k171, n171⟩, -, X171, ⟨Lc171, hQ171, l171, y171, z171⟩, st171⟩ := X169.interfaceBack hx (xi := (⟨"java/util/List", "get", "(I)Ljava/lang/Object;"⟩ : MethodName)) (y := (⟨"java/util/ImmutableCollections$List12", "get", "(I)Ljava/lang/Object;"⟩ : MethodName)) hown (mvT hZ (hw _ (List.mem_of_getElem? (i := 99) rfl))) (mvT hZ (hw _ (List.mem_of_getElem? (i := 100) rfl))) (mvT hZ (hw _ (List.mem_of_getElem? (i := 101) rfl))) (mvT hZ (hw _ (List.mem_of_getElem? (i := 102) rfl))) (mvT hZ (hw _ (List.mem_of_getElem? (i := 103) rfl))) (mvT hZ (hw _ (List.mem_of_getElem? (i := 104) rfl))) (mvT hZ (hw _ (List.mem_of_getElem? (i := 105) rfl))) (mvT hZ (hw _ (List.mem_of_getElem? (i := 96) rfl))) (by decide) (backOf (W := 0) (own_v0_rm16 l Z a0 hw [] r162 x1162 T162.heap n0 Z167 Q162_5) hZ (hw _ (List.mem_of_getElem? (i := 106) rfl)) (hw _ (List.mem_of_getElem? (i := 60) rfl)) (by decide) (by decide)) q171a q171b q171c (g := (mkF m 113 #[.val (.int p1), .val (.int p2), .val (.int p3), .val (.int (p3 &&& (3 : Int32))), .val (.int p1), .val (.int p2), .val (.ref b105), .val (.ref r162), .val (.int (0 : Int32)), .unset, .unset] [(.int (0 : Int32)), (.ref r162)])) rfl (by rw [hml]; rfl) (Steps.refl _) (argsL := [(.int (0 : Int32))]) (rest := []) (lenOf own_pd144 rfl) rfl (by show 2 * 0 + _ ≤ _; exact Nat.le_of_eq rfl) (hb hby at_113) (fun _ _ => ⟨rfl, e169, (by decide : 4 + 0 ≤ _), (by decide : 6 + 0 ≤ _)⟩)
            dsimp only [Pt.U, Pt.locs, Pt.cells, Pt.slots] at X171 l171 y171 z171 st171 hQ171
            subst l171 y171 z171
            obtain ⟨hv171, N171q, e171⟩ := hQ171
            have N172 := Fr.app N170 N171q
            rw [show (own_v0_f16 x1162) = x1162 from by first | rfl | decide | simp [own_v0_f16]] at hv171
            subst hv171
            obtain ⟨cq173, kq173, q173a, q173b, q173c⟩ := isOf hZ e171 Q162_4
            obtain ⟨v173, _, ⟨T173, L173, k173, n173⟩, -, X173, ⟨Lc173, hQ173, l173, y173, z173⟩, st173⟩ := X171.interfaceBack hx (xi := (⟨"java/util/List", "get", "(I)Ljava/lang/Object;"⟩ : MethodName)) (y := (⟨"java/util/ImmutableCollections$List12", "get", "(I)Ljava/lang/Object;"⟩ : MethodName)) hown (mvT hZ (hw _ (List.mem_of_getElem? (i := 99) rfl))) (mvT hZ (hw _ (List.mem_of_getElem? (i := 100) rfl))) (mvT hZ (hw _ (List.mem_of_getElem? (i := 101) rfl))) (mvT hZ (hw _ (List.mem_of_getElem? (i := 102) rfl))) (mvT hZ (hw _ (List.mem_of_getElem? (i := 103) rfl))) (mvT hZ (hw _ (List.mem_of_getElem? (i := 104) rfl))) (mvT hZ (hw _ (List.mem_of_getElem? (i := 105) rfl))) (mvT hZ (hw _ (List.mem_of_getElem? (i := 96) rfl))) (by decide) (backOf (W := 0) (own_v1_rm16 l Z a0 hw [] r162 x2162 w_EMPTY T162.heap n0 Z167 O163 (Exa.ne Q162_2 (E_w_EMPTY.ext O163.2) (by decide)) Q162_6 S_EMPTY) hZ (hw _ (List.mem_of_getElem? (i := 106) rfl)) (hw _ (List.mem_of_getElem? (i := 60) rfl)) (by decide) (by decide)) q173a q173b q173c (g := (mkF m 123 #[.val (.int p1), .val (.int p2), .val (.int p3), .val (.int (p3 &&& (3 : Int32))), .val (.int p1), .val (.int p2), .val (.ref b105), .val (.ref r162), .val (.int (0 : Int32)), .val (.ref x1162), .unset] [(.int (1 : Int32)), (.ref r162)])) rfl (by rw [hml]; rfl) (Steps.refl _) (argsL := [(.int (1 : Int32))]) (rest := []) (lenOf own_pd144 rfl) rfl (by show 2 * 0 + _ ≤ _; exact Nat.le_of_eq rfl) (hb hby at_123) (fun _ _ => ⟨rfl, e171, (by decide : 4 + 0 ≤ _), (by decide : 6 + 0 ≤ _)⟩)
            dsimp only [Pt.U, Pt.locs, Pt.cells, Pt.slots] at X173 l173 y173 z173 st173 hQ173
            subst l173 y173 z173
            obtain ⟨hv173, N173q, e173⟩ := hQ173
            have N174 := Fr.app N172 N173q
            rw [show (own_v1_f16 x2162) = x2162 from by first | rfl | decide | simp [own_v1_f16]] at hv173
            subst hv173
            obtain ⟨T175, X175, e175, st175⟩ := instY X173 hx hZ hown (hw _ (List.mem_of_getElem? (i := 107) rfl)) e173 (Ins.self Q162_0) (g := (mkF m 132 #[.val (.int p1), .val (.int p2), .val (.int p3), .val (.int (p3 &&& (3 : Int32))), .val (.int p1), .val (.int p2), .val (.ref b105), .val (.ref r162), .val (.int (0 : Int32)), .val (.ref x1162), .val (.ref x2162)] [(.ref x1162)])) rfl rfl (hb hby at_132)
            obtain ⟨T176, X176, e176, st176⟩ := instY X175 hx hZ hown (hw _ (List.mem_of_getElem? (i := 107) rfl)) e175 (Ins.self Q162_2) (g := (mkF m 140 #[.val (.int p1), .val (.int p2), .val (.int p3), .val (.int (p3 &&& (3 : Int32))), .val (.int p1), .val (.int p2), .val (.ref b105), .val (.ref r162), .val (.int (0 : Int32)), .val (.ref x1162), .val (.ref x2162)] [(.ref x2162)])) rfl rfl (hb hby at_140)
            obtain ⟨T177, X177, e177, st177⟩ := castY X176 hx hZ hown (hw _ (List.mem_of_getElem? (i := 107) rfl)) e176 (Ins.self Q162_0) (g := (mkF m 150 #[.val (.int p1), .val (.int p2), .val (.int p3), .val (.int (p3 &&& (3 : Int32))), .val (.int p1), .val (.int p2), .val (.ref b105), .val (.ref r162), .val (.int (0 : Int32)), .val (.ref x1162), .val (.ref x2162)] [(.ref x1162)])) rfl rfl (hb hby at_150)
            obtain ⟨cq178, kq178, q178a, q178b, q178c⟩ := isOf hZ e177 Q162_0
            obtain ⟨v178, _, ⟨T178, L178, k178, n178⟩, -, X178, ⟨Lc178, hQ178, l178, y178, z178⟩, st178⟩ := X177.virtualBack hx (y := (⟨"java/lang/Integer", "intValue", "()I"⟩ : MethodName)) (z := (⟨"java/lang/Integer", "intValue", "()I"⟩ : MethodName)) hown (mvT hZ (hw _ (List.mem_of_getElem? (i := 109) rfl))) (mvT hZ (hw _ (List.mem_of_getElem? (i := 110) rfl))) (notFace_of_selects (args := #[]) (mvT hZ (hw _ (List.mem_of_getElem? (i := 112) rfl)))) (mvT hZ (hw _ (List.mem_of_getElem? (i := 112) rfl))) (mvT hZ (hw _ (List.mem_of_getElem? (i := 111) rfl))) (by decide) (backOf (W := 0) (own_rm17 l Z a0 hw [] x1162 p1 T162.heap n0 Z167 Q162_1) hZ (hw _ (List.mem_of_getElem? (i := 113) rfl)) (hw _ (List.mem_of_getElem? (i := 50) rfl)) (by decide) (by decide)) q178a q178c (g := (mkF m 153 #[.val (.int p1), .val (.int p2), .val (.int p3), .val (.int (p3 &&& (3 : Int32))), .val (.int p1), .val (.int p2), .val (.ref b105), .val (.ref r162), .val (.int (0 : Int32)), .val (.ref x1162), .val (.ref x2162)] [(.ref x1162)])) rfl (by rw [hml]; rfl) (Steps.refl _) (argsL := []) (rest := []) (lenOf own_pd143 rfl) rfl (by show 2 * 0 + _ ≤ _; exact Nat.le_of_eq rfl) (hb hby at_153) (fun _ _ => ⟨rfl, e177, (by decide : 4 + 0 ≤ _), (by decide : 6 + 0 ≤ _)⟩)
            dsimp only [Pt.U, Pt.locs, Pt.cells, Pt.slots] at X178 l178 y178 z178 st178 hQ178
            subst l178 y178 z178
            obtain ⟨hv178, N178q, e178⟩ := hQ178
            have N179 := Fr.app N174 N178q
            rw [show (own_f17 p1) = p1 from by first | rfl | decide | simp [own_f17]] at hv178
            subst hv178
            obtain ⟨T180, X180, e180, st180⟩ := castY X178 hx hZ hown (hw _ (List.mem_of_getElem? (i := 107) rfl)) e178 (Ins.self Q162_2) (g := (mkF m 163 #[.val (.int p1), .val (.int p2), .val (.int p3), .val (.int (p3 &&& (3 : Int32))), .val (.int p1), .val (.int p2), .val (.ref b105), .val (.ref r162), .val (.int (0 : Int32)), .val (.ref x1162), .val (.ref x2162)] [(.ref x2162)])) rfl rfl (hb hby at_163)
            obtain ⟨cq181, kq181, q181a, q181b, q181c⟩ := isOf hZ e180 Q162_2
            obtain ⟨v181, _, ⟨T181, L181, k181, n181⟩, -, X181, ⟨Lc181, hQ181, l181, y181, z181⟩, st181⟩ := X180.virtualBack hx (y := (⟨"java/lang/Integer", "intValue", "()I"⟩ : MethodName)) (z := (⟨"java/lang/Integer", "intValue", "()I"⟩ : MethodName)) hown (mvT hZ (hw _ (List.mem_of_getElem? (i := 109) rfl))) (mvT hZ (hw _ (List.mem_of_getElem? (i := 110) rfl))) (notFace_of_selects (args := #[]) (mvT hZ (hw _ (List.mem_of_getElem? (i := 112) rfl)))) (mvT hZ (hw _ (List.mem_of_getElem? (i := 112) rfl))) (mvT hZ (hw _ (List.mem_of_getElem? (i := 111) rfl))) (by decide) (backOf (W := 0) (own_rm17 l Z a0 hw [] x2162 p2 T162.heap n0 Z167 Q162_3) hZ (hw _ (List.mem_of_getElem? (i := 113) rfl)) (hw _ (List.mem_of_getElem? (i := 50) rfl)) (by decide) (by decide)) q181a q181c (g := (mkF m 166 #[.val (.int p1), .val (.int p2), .val (.int p3), .val (.int (p3 &&& (3 : Int32))), .val (.int p1), .val (.int p2), .val (.ref b105), .val (.ref r162), .val (.int (0 : Int32)), .val (.ref x1162), .val (.ref x2162)] [(.ref x2162)])) rfl (by rw [hml]; rfl) (Steps.refl _) (argsL := []) (rest := []) (lenOf own_pd143 rfl) rfl (by show 2 * 0 + _ ≤ _; exact Nat.le_of_eq rfl) (hb hby at_166) (fun _ _ => ⟨rfl, e180, (by decide : 4 + 0 ≤ _), (by decide : 6 + 0 ≤ _)⟩)
            dsimp only [Pt.U, Pt.locs, Pt.cells, Pt.slots] at X181 l181 y181 z181 st181 hQ181
            subst l181 y181 z181
            obtain ⟨hv181, N181q, e181⟩ := hQ181
            have N182 := Fr.app N179 N181q
            rw [show (own_f17 p2) = p2 from by first | rfl | decide | simp [own_f17]] at hv181
            subst hv181
            obtain ⟨fs, hr, hrun, hended, hW, hsame⟩ := X181.leave (hlocks := hlk) (v := some (.int (1 : Int32))) (fun h => by rw [Bd.returns] at h; cases h)
            refine ⟨_, _, k115 _ ?_, hrun, hended, _, _, rfl, ?_, ⟨_, rfl⟩, hW, hsame.mono (by decide) (by decide)⟩
            · show Steps p.tables e below (T108.setTop (mkF m 52 #[.val (.int p1), .val (.int p2), .val (.int p3), .val (.int (p3 &&& (3 : Int32))), .val (.int p1), .val (.int p2), .val (.ref b105), .unset, .unset, .unset, .unset] [(.ref b105)])) _
              refine st162.trans ?_
              show Steps p.tables e below (T162.setTop (mkF m 55 #[.val (.int p1), .val (.int p2), .val (.int p3), .val (.int (p3 &&& (3 : Int32))), .val (.int p1), .val (.int p2), .val (.ref b105), .unset, .unset, .unset, .unset] [(.ref r162)])) _
              refine XS.astore X162.here hx rfl (hb hby at_55) rfl rfl (l' := #[.val (.int p1), .val (.int p2), .val (.int p3), .val (.int (p3 &&& (3 : Int32))), .val (.int p1), .val (.int p2), .val (.ref b105), .val (.ref r162), .unset, .unset, .unset]) rfl ?_
              show Steps p.tables e below (T162.setTop (mkF m 57 #[.val (.int p1), .val (.int p2), .val (.int p3), .val (.int (p3 &&& (3 : Int32))), .val (.int p1), .val (.int p2), .val (.ref b105), .val (.ref r162), .unset, .unset, .unset] [])) _
              refine XS.iload X162.here hx rfl (hb hby at_57) rfl ?_
              show Steps p.tables e below (T162.setTop (mkF m 59 #[.val (.int p1), .val (.int p2), .val (.int p3), .val (.int (p3 &&& (3 : Int32))), .val (.int p1), .val (.int p2), .val (.ref b105), .val (.ref r162), .unset, .unset, .unset] [(.int p1)])) _
              refine XS.ifYes X162.here hx rfl (pc0 := 59) (pc' := 73) rfl (hb hby at_59) rfl ((if0 _ _).trans (feq hc7).2) (by decide) (by decide) ?_
              show Steps p.tables e below (T162.setTop (mkF m 73 #[.val (.int p1), .val (.int p2), .val (.int p3), .val (.int (p3 &&& (3 : Int32))), .val (.int p1), .val (.int p2), .val (.ref b105), .val (.ref r162), .unset, .unset, .unset] [])) _
              refine XS.iconst X162.here hx rfl (hb hby at_73) ?_
              show Steps p.tables e below (T162.setTop (mkF m 74 #[.val (.int p1), .val (.int p2), .val (.int p3), .val (.int (p3 &&& (3 : Int32))), .val (.int p1), .val (.int p2), .val (.ref b105), .val (.ref r162), .unset, .unset, .unset] [(.int (0 : Int32))])) _
              refine XS.istore X162.here hx rfl (hb hby at_74) rfl (l' := #[.val (.int p1), .val (.int p2), .val (.int p3), .val (.int (p3 &&& (3 : Int32))), .val (.int p1), .val (.int p2), .val (.ref b105), .val (.ref r162), .val (.int (0 : Int32)), .unset, .unset]) rfl ?_
              show Steps p.tables e below (T162.setTop (mkF m 76 #[.val (.int p1), .val (.int p2), .val (.int p3), .val (.int (p3 &&& (3 : Int32))), .val (.int p1), .val (.int p2), .val (.ref b105), .val (.ref r162), .val (.int (0 : Int32)), .unset, .unset] [])) _
              refine XS.iload X162.here hx rfl (hb hby at_76) rfl ?_
              show Steps p.tables e below (T162.setTop (mkF m 78 #[.val (.int p1), .val (.int p2), .val (.int p3), .val (.int (p3 &&& (3 : Int32))), .val (.int p1), .val (.int p2), .val (.ref b105), .val (.ref r162), .val (.int (0 : Int32)), .unset, .unset] [(.int (0 : Int32))])) _
              refine XS.ifYes X162.here hx rfl (pc0 := 78) (pc' := 97) rfl (hb hby at_78) rfl ((if0 _ _).trans (teq (by decide : (0 : Int32) = (0 : Int32))).1) (by decide) (by decide) ?_
              show Steps p.tables e below (T162.setTop (mkF m 97 #[.val (.int p1), .val (.int p2), .val (.int p3), .val (.int (p3 &&& (3 : Int32))), .val (.int p1), .val (.int p2), .val (.ref b105), .val (.ref r162), .val (.int (0 : Int32)), .unset, .unset] [])) _
              refine XS.aload X162.here hx rfl (hb hby at_97) rfl rfl ?_
              show Steps p.tables e below (T162.setTop (mkF m 99 #[.val (.int p1), .val (.int p2), .val (.int p3), .val (.int (p3 &&& (3 : Int32))), .val (.int p1), .val (.int p2), .val (.ref b105), .val (.ref r162), .val (.int (0 : Int32)), .unset, .unset] [(.ref r162)])) _
              refine st169.trans ?_
              show Steps p.tables e below (T169.setTop (mkF m 104 #[.val (.int p1), .val (.int p2), .val (.int p3), .val (.int (p3 &&& (3 : Int32))), .val (.int p1), .val (.int p2), .val (.ref b105), .val (.ref r162), .val (.int (0 : Int32)), .unset, .unset] [(.int (2 : Int32))])) _
              refine XS.iconst X169.here hx rfl (hb hby at_104) ?_
              show Steps p.tables e below (T169.setTop (mkF m 105 #[.val (.int p1), .val (.int p2), .val (.int p3), .val (.int (p3 &&& (3 : Int32))), .val (.int p1), .val (.int p2), .val (.ref b105), .val (.ref r162), .val (.int (0 : Int32)), .unset, .unset] [(.int (2 : Int32)), (.int (2 : Int32))])) _
              refine XS.icmpYes X169.here hx rfl (pc0 := 105) (pc' := 110) rfl (hb hby at_105) rfl (teq (by decide : (2 : Int32) = (2 : Int32))).1 (by decide) (by decide) ?_
              show Steps p.tables e below (T169.setTop (mkF m 110 #[.val (.int p1), .val (.int p2), .val (.int p3), .val (.int (p3 &&& (3 : Int32))), .val (.int p1), .val (.int p2), .val (.ref b105), .val (.ref r162), .val (.int (0 : Int32)), .unset, .unset] [])) _
              refine XS.aload X169.here hx rfl (hb hby at_110) rfl rfl ?_
              show Steps p.tables e below (T169.setTop (mkF m 112 #[.val (.int p1), .val (.int p2), .val (.int p3), .val (.int (p3 &&& (3 : Int32))), .val (.int p1), .val (.int p2), .val (.ref b105), .val (.ref r162), .val (.int (0 : Int32)), .unset, .unset] [(.ref r162)])) _
              refine XS.iconst X169.here hx rfl (hb hby at_112) ?_
              show Steps p.tables e below (T169.setTop (mkF m 113 #[.val (.int p1), .val (.int p2), .val (.int p3), .val (.int (p3 &&& (3 : Int32))), .val (.int p1), .val (.int p2), .val (.ref b105), .val (.ref r162), .val (.int (0 : Int32)), .unset, .unset] [(.int (0 : Int32)), (.ref r162)])) _
              refine st171.trans ?_
              show Steps p.tables e below (T171.setTop (mkF m 118 #[.val (.int p1), .val (.int p2), .val (.int p3), .val (.int (p3 &&& (3 : Int32))), .val (.int p1), .val (.int p2), .val (.ref b105), .val (.ref r162), .val (.int (0 : Int32)), .unset, .unset] [(.ref x1162)])) _
              refine XS.astore X171.here hx rfl (hb hby at_118) rfl rfl (l' := #[.val (.int p1), .val (.int p2), .val (.int p3), .val (.int (p3 &&& (3 : Int32))), .val (.int p1), .val (.int p2), .val (.ref b105), .val (.ref r162), .val (.int (0 : Int32)), .val (.ref x1162), .unset]) rfl ?_
              show Steps p.tables e below (T171.setTop (mkF m 120 #[.val (.int p1), .val (.int p2), .val (.int p3), .val (.int (p3 &&& (3 : Int32))), .val (.int p1), .val (.int p2), .val (.ref b105), .val (.ref r162), .val (.int (0 : Int32)), .val (.ref x1162), .unset] [])) _
              refine XS.aload X171.here hx rfl (hb hby at_120) rfl rfl ?_
              show Steps p.tables e below (T171.setTop (mkF m 122 #[.val (.int p1), .val (.int p2), .val (.int p3), .val (.int (p3 &&& (3 : Int32))), .val (.int p1), .val (.int p2), .val (.ref b105), .val (.ref r162), .val (.int (0 : Int32)), .val (.ref x1162), .unset] [(.ref r162)])) _
              refine XS.iconst X171.here hx rfl (hb hby at_122) ?_
              show Steps p.tables e below (T171.setTop (mkF m 123 #[.val (.int p1), .val (.int p2), .val (.int p3), .val (.int (p3 &&& (3 : Int32))), .val (.int p1), .val (.int p2), .val (.ref b105), .val (.ref r162), .val (.int (0 : Int32)), .val (.ref x1162), .unset] [(.int (1 : Int32)), (.ref r162)])) _
              refine st173.trans ?_
              show Steps p.tables e below (T173.setTop (mkF m 128 #[.val (.int p1), .val (.int p2), .val (.int p3), .val (.int (p3 &&& (3 : Int32))), .val (.int p1), .val (.int p2), .val (.ref b105), .val (.ref r162), .val (.int (0 : Int32)), .val (.ref x1162), .unset] [(.ref x2162)])) _
              refine XS.astore X173.here hx rfl (hb hby at_128) rfl rfl (l' := #[.val (.int p1), .val (.int p2), .val (.int p3), .val (.int (p3 &&& (3 : Int32))), .val (.int p1), .val (.int p2), .val (.ref b105), .val (.ref r162), .val (.int (0 : Int32)), .val (.ref x1162), .val (.ref x2162)]) rfl ?_
              show Steps p.tables e below (T173.setTop (mkF m 130 #[.val (.int p1), .val (.int p2), .val (.int p3), .val (.int (p3 &&& (3 : Int32))), .val (.int p1), .val (.int p2), .val (.ref b105), .val (.ref r162), .val (.int (0 : Int32)), .val (.ref x1162), .val (.ref x2162)] [])) _
              refine XS.aload X173.here hx rfl (hb hby at_130) rfl rfl ?_
              show Steps p.tables e below (T173.setTop (mkF m 132 #[.val (.int p1), .val (.int p2), .val (.int p3), .val (.int (p3 &&& (3 : Int32))), .val (.int p1), .val (.int p2), .val (.ref b105), .val (.ref r162), .val (.int (0 : Int32)), .val (.ref x1162), .val (.ref x2162)] [(.ref x1162)])) _
              refine st175 _ ?_
              show Steps p.tables e below (T175.setTop (mkF m 135 #[.val (.int p1), .val (.int p2), .val (.int p3), .val (.int (p3 &&& (3 : Int32))), .val (.int p1), .val (.int p2), .val (.ref b105), .val (.ref r162), .val (.int (0 : Int32)), .val (.ref x1162), .val (.ref x2162)] [(.int (1 : Int32))])) _
              refine XS.ifNo X175.here hx rfl (hb hby at_135) rfl ((if0 _ _).trans (feq (by decide : ¬ ((1 : Int32) = (0 : Int32)))).1) ?_
              show Steps p.tables e below (T175.setTop (mkF m 138 #[.val (.int p1), .val (.int p2), .val (.int p3), .val (.int (p3 &&& (3 : Int32))), .val (.int p1), .val (.int p2), .val (.ref b105), .val (.ref r162), .val (.int (0 : Int32)), .val (.ref x1162), .val (.ref x2162)] [])) _
              refine XS.aload X175.here hx rfl (hb hby at_138) rfl rfl ?_
              show Steps p.tables e below (T175.setTop (mkF m 140 #[.val (.int p1), .val (.int p2), .val (.int p3), .val (.int (p3 &&& (3 : Int32))), .val (.int p1), .val (.int p2), .val (.ref b105), .val (.ref r162), .val (.int (0 : Int32)), .val (.ref x1162), .val (.ref x2162)] [(.ref x2162)])) _
              refine st176 _ ?_
              show Steps p.tables e below (T176.setTop (mkF m 143 #[.val (.int p1), .val (.int p2), .val (.int p3), .val (.int (p3 &&& (3 : Int32))), .val (.int p1), .val (.int p2), .val (.ref b105), .val (.ref r162), .val (.int (0 : Int32)), .val (.ref x1162), .val (.ref x2162)] [(.int (1 : Int32))])) _
              refine XS.ifYes X176.here hx rfl (pc0 := 143) (pc' := 148) rfl (hb hby at_143) rfl ((if0 _ _).trans (feq (by decide : ¬ ((1 : Int32) = (0 : Int32)))).2) (by decide) (by decide) ?_
              show Steps p.tables e below (T176.setTop (mkF m 148 #[.val (.int p1), .val (.int p2), .val (.int p3), .val (.int (p3 &&& (3 : Int32))), .val (.int p1), .val (.int p2), .val (.ref b105), .val (.ref r162), .val (.int (0 : Int32)), .val (.ref x1162), .val (.ref x2162)] [])) _
              refine XS.aload X176.here hx rfl (hb hby at_148) rfl rfl ?_
              show Steps p.tables e below (T176.setTop (mkF m 150 #[.val (.int p1), .val (.int p2), .val (.int p3), .val (.int (p3 &&& (3 : Int32))), .val (.int p1), .val (.int p2), .val (.ref b105), .val (.ref r162), .val (.int (0 : Int32)), .val (.ref x1162), .val (.ref x2162)] [(.ref x1162)])) _
              refine st177 _ ?_
              show Steps p.tables e below (T177.setTop (mkF m 153 #[.val (.int p1), .val (.int p2), .val (.int p3), .val (.int (p3 &&& (3 : Int32))), .val (.int p1), .val (.int p2), .val (.ref b105), .val (.ref r162), .val (.int (0 : Int32)), .val (.ref x1162), .val (.ref x2162)] [(.ref x1162)])) _
              refine st178.trans ?_
              show Steps p.tables e below (T178.setTop (mkF m 156 #[.val (.int p1), .val (.int p2), .val (.int p3), .val (.int (p3 &&& (3 : Int32))), .val (.int p1), .val (.int p2), .val (.ref b105), .val (.ref r162), .val (.int (0 : Int32)), .val (.ref x1162), .val (.ref x2162)] [(.int p1)])) _
              refine XS.iload X178.here hx rfl (hb hby at_156) rfl ?_
              show Steps p.tables e below (T178.setTop (mkF m 158 #[.val (.int p1), .val (.int p2), .val (.int p3), .val (.int (p3 &&& (3 : Int32))), .val (.int p1), .val (.int p2), .val (.ref b105), .val (.ref r162), .val (.int (0 : Int32)), .val (.ref x1162), .val (.ref x2162)] [(.int p1), (.int p1)])) _
              refine XS.icmpNo X178.here hx rfl (hb hby at_158) rfl (teq (rfl : p1 = p1)).2 ?_
              show Steps p.tables e below (T178.setTop (mkF m 161 #[.val (.int p1), .val (.int p2), .val (.int p3), .val (.int (p3 &&& (3 : Int32))), .val (.int p1), .val (.int p2), .val (.ref b105), .val (.ref r162), .val (.int (0 : Int32)), .val (.ref x1162), .val (.ref x2162)] [])) _
              refine XS.aload X178.here hx rfl (hb hby at_161) rfl rfl ?_
              show Steps p.tables e below (T178.setTop (mkF m 163 #[.val (.int p1), .val (.int p2), .val (.int p3), .val (.int (p3 &&& (3 : Int32))), .val (.int p1), .val (.int p2), .val (.ref b105), .val (.ref r162), .val (.int (0 : Int32)), .val (.ref x1162), .val (.ref x2162)] [(.ref x2162)])) _
              refine st180 _ ?_
              show Steps p.tables e below (T180.setTop (mkF m 166 #[.val (.int p1), .val (.int p2), .val (.int p3), .val (.int (p3 &&& (3 : Int32))), .val (.int p1), .val (.int p2), .val (.ref b105), .val (.ref r162), .val (.int (0 : Int32)), .val (.ref x1162), .val (.ref x2162)] [(.ref x2162)])) _
              refine st181.trans ?_
              show Steps p.tables e below (T181.setTop (mkF m 169 #[.val (.int p1), .val (.int p2), .val (.int p3), .val (.int (p3 &&& (3 : Int32))), .val (.int p1), .val (.int p2), .val (.ref b105), .val (.ref r162), .val (.int (0 : Int32)), .val (.ref x1162), .val (.ref x2162)] [(.int p2)])) _
              refine XS.iload X181.here hx rfl (hb hby at_169) rfl ?_
              show Steps p.tables e below (T181.setTop (mkF m 171 #[.val (.int p1), .val (.int p2), .val (.int p3), .val (.int (p3 &&& (3 : Int32))), .val (.int p1), .val (.int p2), .val (.ref b105), .val (.ref r162), .val (.int (0 : Int32)), .val (.ref x1162), .val (.ref x2162)] [(.int p2), (.int p2)])) _
              refine XS.icmpNo X181.here hx rfl (hb hby at_171) rfl (teq (rfl : p2 = p2)).2 ?_
              show Steps p.tables e below (T181.setTop (mkF m 174 #[.val (.int p1), .val (.int p2), .val (.int p3), .val (.int (p3 &&& (3 : Int32))), .val (.int p1), .val (.int p2), .val (.ref b105), .val (.ref r162), .val (.int (0 : Int32)), .val (.ref x1162), .val (.ref x2162)] [])) _
              refine XS.iconst X181.here hx rfl (hb hby at_174) ?_
              show Steps p.tables e below (T181.setTop (mkF m 175 #[.val (.int p1), .val (.int p2), .val (.int p3), .val (.int (p3 &&& (3 : Int32))), .val (.int p1), .val (.int p2), .val (.ref b105), .val (.ref r162), .val (.int (0 : Int32)), .val (.ref x1162), .val (.ref x2162)] [(.int (1 : Int32))])) _
              refine XS.goto X181.here hx rfl (pc0 := 175) (pc' := 179) rfl (hb hby at_175) (by decide) (by decide) ?_
              show Steps p.tables e below (T181.setTop (mkF m 179 #[.val (.int p1), .val (.int p2), .val (.int p3), .val (.int (p3 &&& (3 : Int32))), .val (.int p1), .val (.int p2), .val (.ref b105), .val (.ref r162), .val (.int (0 : Int32)), .val (.ref x1162), .val (.ref x2162)] [(.int (1 : Int32))])) _
              exact retN X181 hx (t := .boolean) Bd.returns (by simp) (hb hby at_179) hr
            · show own_Q0 Z p1 p2 p3 clc w_EMPTY_LIST w_elements_w_EMPTY_LIST k_w_elements_w_EMPTY_LIST w_cache w_EMPTY h0 n0 _ T181.heap _
              rw [e181]
              exact ⟨(by rw [own_f0, if_neg hc1, if_neg hc2, if_neg hc5, if_neg hc7, if_neg hc9]), N182⟩
theorem own_law (p1 p2 p3 : Int32) : own_f0 p1 p2 p3 = 1 := by
  unfold own_f0
  simp only [ite_self]
theorem own_eqF {args : Array Value} {s : State} {t : Term} {C n d : String} {x : Addr} {k : Int32} (h : (Jvm.Cond.eq (Term.field t C n d) (Term.int k)).value args s none s [] = some true) (ht : t.eval args s none [] s = some (.ref x)) : s.fieldOf? x C n d = some (.int k) := by
  obtain ⟨u, w, hu, hw, k1, k2⟩ := cmp_v (Or.inl h)
  have e1 : w = .int k := (Option.some.inj ((Term.int_eval k).symm.trans hw)).symm
  subst e1
  obtain ⟨y, rfl⟩ := k2
  rw [← fld_at ht, hu]
  rw [Cond.eq_ints hu hw] at h
  simp at h
  rw [h]
theorem own_eqFL {args : Array Value} {s : State} {t : Term} {C n d : String} {x : Addr} {k : Int64} (h : (Jvm.Cond.eq (Term.field t C n d) (Term.long k)).value args s none s [] = some true) (ht : t.eval args s none [] s = some (.ref x)) : s.fieldOf? x C n d = some (.long k) := by
  obtain ⟨u, w, hu, hw, k1, k2⟩ := cmp_v (Or.inl h)
  have e1 : w = .long k := (Option.some.inj ((show (Term.long k).eval args s none [] s = some (.long k) from rfl).symm.trans hw)).symm
  subst e1
  obtain ⟨y, rfl⟩ := k2
  rw [← fld_at ht, hu]
  rw [eq_L hu hw] at h
  simp at h
  rw [h]
theorem own_eqR {args : Array Value} {s : State} {a b : Term} {x : Addr} (h : (Jvm.Cond.eq a b).value args s none s [] = some true) (hb : b.eval args s none [] s = some (.ref x)) : a.eval args s none [] s = some (.ref x) := by
  obtain ⟨u, w, hu, hw, k1, k2⟩ := cmp_v (Or.inl h)
  have e1 : w = .ref x := (Option.some.inj (hb.symm.trans hw)).symm
  subst e1
  rw [eq_R hu hw k2.2 rfl] at h
  simp at h
  rw [hu, h]
theorem own_len {args : Array Value} {s : State} {t : Term} {x : Addr} {cl : Cell} {k : Int32} (h : (Jvm.Cond.eq (Term.length t) (Term.int k)).value args s none s [] = some true) (ht : t.eval args s none [] s = some (.ref x)) (hc : s.heap[x]? = some cl) : cl.slots.size < 2 ^ 31 ∧ cl.slots.size.toInt32 = k := by
  obtain ⟨u, w, hu, hw, k1, k2⟩ := cmp_v (Or.inl h)
  have e1 : w = .int k := (Option.some.inj ((Term.int_eval k).symm.trans hw)).symm
  subst e1
  obtain ⟨y, rfl⟩ := k2
  rw [Cond.eq_ints hu hw] at h
  simp at h
  subst h
  simp only [Term.eval, Option.bind_eq_bind, ht, Option.bind_some] at hu
  obtain ⟨cell, hcell, h2⟩ := Option.bind_eq_some_iff.mp hu
  cases hc.symm.trans (State.arrayAt?_spec hcell).1
  by_cases hn : cl.slots.size < 2147483648
  · rw [if_pos hn] at h2
    exact ⟨hn, Value.int.inj (Option.some.inj h2)⟩
  · rw [if_neg hn] at h2; cases h2
theorem own_subf {args : Array Value} {first s : State} {o : Option Outcome} {idx : List Nat} {a b : Term} {x y : Int32} (ha : a.eval args first o idx s = some (.int x)) (hb : b.eval args first o idx s = some (.int y)) : (Term.sub a b).eval args first o idx s = some (.int (x - y)) := by simp [Term.eval, ha, hb]
set_option maxRecDepth 65536 in
set_option maxHeartbeats 40000000 in
theorem comes_1 {Post : Tables → Env → Array Value → State → Outcome → State → Prop} (hpost : ∀ tb e args s v u, (limb_1_1.after args s (.returned v) u = true ∧ limb_1_2.after args s (.returned v) u = true ∧ True) → FrameEnd s (.returned v) u (Jvm.fieldLocs frame_1_writes args s ++ Jvm.arrayLocs frame_1_arrays args s ++ Jvm.staticLocs frame_1_statics s) 16 128 → Post tb e args s (.returned v) u) :
    ArmFor flags0 classFile x code maxLocals ret World_1 tables_1 room_1 Calls_1 rest_1 Pre_1 Post := by
  intro l hfl _ _ p e ha hc hk s m args below hf hA hF happ hP
  obtain ⟨hcalls, hrest, hpre⟩ := hP
  obtain ⟨-, -, -, hnamed, -, -, -, hat⟩ := (Spec.applies_iff hf).mp happ
  obtain ⟨hg, hn⟩ := and_e (Cond.before_iff.mp (show (Jvm.Cond.and given_1 narrow_1).before args s = true from hpre))
  obtain ⟨gg1, gg2⟩ := and_e hg
  obtain ⟨gg3, gg4⟩ := and_e gg2
  obtain ⟨gg5, gg6⟩ := and_e gg4
  obtain ⟨w0, w1, w2, rfl⟩ : ∃ w0 w1 w2 : Value, args = #[w0, w1, w2] := by
    have hs : args.size = 3 := by simpa [Cond.value, given_1] using gg1
    obtain ⟨L⟩ := args
    match L, hs with
    | [w0, w1, w2], _ => exact ⟨w0, w1, w2, rfl⟩
  have hw := fun d (hd : d ∈ tables_1) => atoms_spec (ws := Jvm.Cond.code x code maxLocals ret :: tables_1) hat d (List.mem_cons_of_mem _ hd)
  have hfit : Fit s := fun {y c} hc i hi => by
    obtain ⟨ha, rfl⟩ := Array.getElem?_eq_some_iff.mp hc
    have q := List.all_eq_true.mp ((Array.all_eq_true_iff_forall_mem.mp hF) _ (Array.getElem_mem ha)) i (List.mem_range.mpr hi)
    simpa [Array.getElem?_eq_getElem hi] using q
  obtain ⟨hsets, hown0⟩ := atoms_of _ (rest_1_c_eq ▸ (show rest_1_c.before _ s = true from hrest))
  have hr0 := Cond.before_iff.mp hown0
  obtain ⟨i0, ei0⟩ := is_v gg3
  obtain rfl : w0 = (.int i0) := Option.some.inj ei0
  obtain ⟨i1, ei1⟩ := is_v gg5
  obtain rfl : w1 = (.int i1) := Option.some.inj ei1
  obtain ⟨i2, ei2⟩ := is_v gg6
  obtain rfl : w2 = (.int i2) := Option.some.inj ei2
  obtain ⟨aEL, eEL⟩ := exa_v (Cond.before_iff.mp (hsets _ (List.mem_of_getElem? (i := 2) rfl)))
  have S_EL := Sta.start eEL (Or.inl (hsets _ (List.mem_of_getElem? (i := 1) rfl)))
  have E_EL := Exa.start eEL (Cond.before_iff.mp (hsets _ (List.mem_of_getElem? (i := 2) rfl)))
  obtain ⟨aels, eels⟩ := arr_v (Cond.before_iff.mp (hsets _ (List.mem_of_getElem? (i := 3) rfl)))
  have F_EL := Fld.start ((fld_at eEL).symm.trans eels)
  obtain ⟨clE, ArE⟩ := Arr.start eels (Cond.before_iff.mp (hsets _ (List.mem_of_getElem? (i := 3) rfl)))
  obtain ⟨qE1, qE2⟩ := own_len (Cond.before_iff.mp (hsets _ (List.mem_of_getElem? (i := 5) rfl))) eels ArE.1
  have V_E := Arv.start (dv := .null) (vs := []) hfit ArE qE1 qE2 (by decide) rfl trivial
  have e_high := eqv_i (Term.int_eval 127) (Cond.before_iff.mp (hsets _ (List.mem_of_getElem? (i := 10) rfl)))
  have S_high := Sta.start e_high (Or.inl (hsets _ (List.mem_of_getElem? (i := 8) rfl)))
  obtain ⟨aC, eC⟩ := arr_v (Cond.before_iff.mp (hsets _ (List.mem_of_getElem? (i := 11) rfl)))
  have S_cache := Sta.start eC (Or.inr ⟨(hw _ (List.mem_of_getElem? (i := 53) rfl)), (hsets _ (List.mem_of_getElem? (i := 9) rfl))⟩)
  obtain ⟨clC, ArC⟩ := Arr.start eC (Cond.before_iff.mp (hsets _ (List.mem_of_getElem? (i := 11) rfl)))
  obtain ⟨qC1, qC2⟩ := own_len (Cond.before_iff.mp (hsets _ (List.mem_of_getElem? (i := 13) rfl))) eC ArC.1
  have Hc := Bxs.start (val := fun j => .int (j - 128)) (fun _ => eC) ArC qC1 qC2 (by decide) (Cond.before_iff.mp (hsets _ (List.mem_of_getElem? (i := 14) rfl))) (fun X j nn h => eqv_i (own_subf (idx_at nn) (Term.int_eval 128)) h)
  obtain ⟨aEM, eEM⟩ := exa_v (Cond.before_iff.mp (hsets _ (List.mem_of_getElem? (i := 17) rfl)))
  have S_EM := Sta.start eEM (Or.inl (hsets _ (List.mem_of_getElem? (i := 16) rfl)))
  have E_EM := Exa.start eEM (Cond.before_iff.mp (hsets _ (List.mem_of_getElem? (i := 17) rfl)))
  obtain ⟨n, o, h1, h2, h3, _, L, rfl, ⟨rfl, N⟩, hq⟩ := own_rm0 l s _ hw tables_1 i0 i1 i2 clC aEL aels clE.cls aC aEM s.heap s.heap.size (Nat.le_refl _) (Old.start s) Hc S_EL F_EL V_E E_EL S_high S_cache S_EM E_EM p e ha hc hk s m _ below hf ((Spec.applies_iff_loose hf).mp happ).1 ⟨rfl, State.Warmed39.refl s, rfl⟩ trivial
  refine ⟨n, _, h1, h2, h3, hpost _ _ _ _ _ _ ⟨Cond.after_iff.mpr rfl, Cond.after_iff.mpr (eq_i res_at (Term.int_eval (1)) (congrArg Value.int (own_law i0 i1 i2))), trivial⟩ ⟨hq.1, hq.2.1, (hq.2.2.sift fun y hy => Or.inr (N y hy)).mono (by decide) (by decide)⟩⟩
theorem main_1_1 : Claimed_1_1 := comes_1 fun _ _ _ _ _ _ h hF => ⟨h.1, hF⟩
theorem main_1_2 : Claimed_1_2 := comes_1 fun _ _ _ _ _ _ h hF => ⟨h.2.1, hF⟩
end Jvm.Pilot.@@N@@
namespace Jvm.Pilot.@@N@@
open Jvm Jvm.ClassFile Sem Op Lib Jvm.Free Jvm.Stand Jvm.Pilot.@@N@@.Jvm.D
/-! MADE BY PROGRAM (witnessworld.py) out of the Statement's table words and the real class files: 30 classes; the members and pool entries that the words name. The judged class is class 1, her method 1. -/
namespace start1
open Jvm.ClassFile
def u (s : String) : CpInfo := .utf8 (stringToUtf16 s)
/-- a pool by its gaps: so many unusable entries, then the entry; so many at the end -/
def gap : Nat → List CpInfo → List CpInfo
  | 0, r => r
  | n + 1, r => .unusable :: gap n r
def poolList (es : List (Nat × CpInfo)) (last : Nat) : List CpInfo := es.foldr (fun e r => gap e.1 (e.2 :: r)) (gap last [])
def pool (es : List (Nat × CpInfo)) (last : Nat) : Array CpInfo := ⟨poolList es last⟩
def fileOf (pool : Array CpInfo) (this : Nat) (attrs : Array Attribute := #[]) (ms : Array MethodInfo := #[]) (fl : Nat := 33) (sup : Nat := 0) (ifs : Array Nat := #[]) (fds : Array FieldInfo := #[]) : ClassFile where
  minorVersion := 0
  majorVersion := 65
  constantPool := pool
  accessFlags := fl
  thisClass := this
  superClass := sup
  interfaces := ifs
  fields := fds
  methods := ms
  attributes := attrs
def plain (name : String) (sup : Option ClassId) : Class where
  name := name
  kind := .ordinary
  loader := none
  accessFlags := 33
  super := sup
  interfaces := #[]
  cf := none
  fields := #[]
  methods := #[]
  instanceTypes := #[]
  staticTypes := #[]
  resolved := #[]
  callSites := []
  init := .initialized
  statics := none
  mirror := none

def pool0 : Array CpInfo := pool [(5, u "<init>"), (0, u "()V"), (1, .class_ 10), (1, u "java/lang/Object")] 113

def k0c0 : Code := { maxStack := 0, maxLocals := 1, code := object_method_1_code, exceptionTable := #[], attributes := #[] }
def k0m0 : Method := { name := "<init>", desc := "()V", sig := { parameters := [], returnType := none }, accessFlags := 1, code := some k0c0 }
/-- java/lang/Object -/
def k0 : Class := { plain "java/lang/Object" none with
  accessFlags := 33
  interfaces := #[]
  cf := some (fileOf pool0 8 #[] #[{ accessFlags := 1, nameIndex := 5, descriptorIndex := 6, attributes := #[] }] 33 0 #[] #[])
  fields := #[]
  methods := #[k0m0]
  instanceTypes := #[]
  staticTypes := #[]
  resolved := Array.replicate 124 none
  statics := none }

def pool1 : Array CpInfo := pool [(2, .class_ 4), (1, u "java/lang/Object"), (0, u "<init>"), (0, u "()V"), (0, .class_ 8), (0, u "java/lang/Integer"), (0, .integer 2147483647), (0, .class_ 11), (0, u "com/example/fetch_plan/fetchplan/Page"), (0, .methodref 10 13), (0, .nameAndType 5 14), (0, u "(II)V"), (0, .methodref 10 16), (0, .nameAndType 17 18), (0, u "parameters"), (0, u "()Ljava/util/List;"), (0, .interfaceMethodref 20 21), (0, .class_ 22), (0, .nameAndType 23 24), (0, u "java/util/List"), (0, u "size"), (0, u "()I"), (0, .interfaceMethodref 20 26), (0, .nameAndType 27 28), (0, u "get"), (0, u "(I)Ljava/lang/Object;"), (0, .methodref 7 30), (0, .nameAndType 31 24), (0, u "intValue"), (0, .class_ 33), (0, u "com/example/fetch_plan/fetchplan/PageParametersPinLaw"), (2, u "law"), (0, u "(III)Z")] 3

def k1m0 : Method := { name := "<init>", desc := "()V", sig := { parameters := [], returnType := none }, accessFlags := 1, code := none }
def k1c1 : Code := { maxStack := 4, maxLocals := 11, code := code, exceptionTable := #[], attributes := #[] }
def k1m1 : Method := { name := "law", desc := "(III)Z", sig := { parameters := [.int, .int, .int], returnType := some .boolean }, accessFlags := 9, code := some k1c1 }
/-- com/example/fetch_plan/fetchplan/PageParametersPinLaw -/
def k1 : Class := { plain "com/example/fetch_plan/fetchplan/PageParametersPinLaw" (some 0) with
  accessFlags := 49
  interfaces := #[]
  cf := some (fileOf pool1 32 #[] #[{ accessFlags := 1, nameIndex := 5, descriptorIndex := 6, attributes := #[] }, { accessFlags := 9, nameIndex := 36, descriptorIndex := 37, attributes := #[] }] 49 2 #[] #[])
  fields := #[]
  methods := #[k1m0, k1m1]
  instanceTypes := #[]
  staticTypes := #[]
  resolved := Array.replicate 41 none
  statics := none }

def pool2 : Array CpInfo := pool [(1, .methodref 2 3), (0, .class_ 4), (0, .nameAndType 5 6), (0, u "java/lang/Object"), (0, u "<init>"), (0, u "()V"), (0, .class_ 8), (0, u "java/lang/Record")] 13

def k2c0 : Code := { maxStack := 1, maxLocals := 1, code := jdk_30_method_1_code, exceptionTable := #[], attributes := #[] }
def k2m0 : Method := { name := "<init>", desc := "()V", sig := { parameters := [], returnType := none }, accessFlags := 4, code := some k2c0 }
/-- java/lang/Record -/
def k2 : Class := { plain "java/lang/Record" (some 0) with
  accessFlags := 1057
  interfaces := #[]
  cf := some (fileOf pool2 7 #[] #[{ accessFlags := 4, nameIndex := 5, descriptorIndex := 6, attributes := #[] }] 1057 2 #[] #[])
  fields := #[]
  methods := #[k2m0]
  instanceTypes := #[]
  staticTypes := #[]
  resolved := Array.replicate 22 none
  statics := none }

def pool3 : Array CpInfo := pool [(1, .class_ 2), (0, u "java/lang/Integer"), (0, .methodref 4 5), (0, .class_ 6), (0, .nameAndType 7 8), (0, u "java/lang/Record"), (0, u "<init>"), (0, u "()V"), (0, .fieldref 10 11), (0, .class_ 12), (0, .nameAndType 13 14), (0, u "com/example/fetch_plan/fetchplan/Page"), (0, u "first"), (0, u "I"), (0, .fieldref 10 16), (0, .nameAndType 17 14), (0, u "max"), (0, .integer 2147483647), (0, .methodref 10 20), (0, .nameAndType 21 22), (0, u "keepsAll"), (0, u "()Z"), (4, .interfaceMethodref 28 29), (0, .class_ 30), (0, .nameAndType 31 32), (0, u "java/util/List"), (0, u "of"), (0, u "()Ljava/util/List;"), (0, .methodref 1 34), (0, .nameAndType 35 36), (0, u "valueOf"), (0, u "(I)Ljava/lang/Integer;"), (0, .interfaceMethodref 28 38), (0, .nameAndType 31 39), (0, u "(Ljava/lang/Object;Ljava/lang/Object;)Ljava/util/List;"), (14, u "(II)V"), (2, u "ALL"), (0, u "Lcom/example/fetch_plan/fetchplan/Page;"), (0, u "NO_LIMIT"), (9, u "parameters")] 26

def k3c0 : Code := { maxStack := 2, maxLocals := 3, code := prog_6_method_1_code, exceptionTable := #[], attributes := #[] }
def k3m0 : Method := { name := "<init>", desc := "(II)V", sig := { parameters := [.int, .int], returnType := none }, accessFlags := 0, code := some k3c0 }
def k3c1 : Code := { maxStack := 2, maxLocals := 1, code := prog_6_method_2_code, exceptionTable := #[], attributes := #[] }
def k3m1 : Method := { name := "keepsAll", desc := "()Z", sig := { parameters := [], returnType := some .boolean }, accessFlags := 0, code := some k3c1 }
def k3c2 : Code := { maxStack := 2, maxLocals := 1, code := prog_6_method_4_code, exceptionTable := #[], attributes := #[] }
def k3m2 : Method := { name := "parameters", desc := "()Ljava/util/List;", sig := { parameters := [], returnType := some (.object "java/util/List") }, accessFlags := 0, code := some k3c2 }
/-- com/example/fetch_plan/fetchplan/Page -/
def k3 : Class := { plain "com/example/fetch_plan/fetchplan/Page" (some 2) with
  accessFlags := 48
  interfaces := #[]
  cf := some (fileOf pool3 10 #[] #[{ accessFlags := 0, nameIndex := 7, descriptorIndex := 54, attributes := #[] }, { accessFlags := 0, nameIndex := 21, descriptorIndex := 22, attributes := #[] }, { accessFlags := 0, nameIndex := 69, descriptorIndex := 32, attributes := #[] }] 48 4 #[] #[{ accessFlags := 18, nameIndex := 13, descriptorIndex := 14, attributes := #[] }, { accessFlags := 18, nameIndex := 17, descriptorIndex := 14, attributes := #[] }, { accessFlags := 24, nameIndex := 59, descriptorIndex := 14, attributes := #[] }, { accessFlags := 24, nameIndex := 57, descriptorIndex := 58, attributes := #[] }])
  fields := #[{ name := "first", type := .int, accessFlags := 18, slot := 0, constantValue := 0 }, { name := "max", type := .int, accessFlags := 18, slot := 1, constantValue := 0 }, { name := "NO_LIMIT", type := .int, accessFlags := 24, slot := 0, constantValue := 0 }, { name := "ALL", type := (.object "com/example/fetch_plan/fetchplan/Page"), accessFlags := 24, slot := 1, constantValue := 0 }]
  methods := #[k3m0, k3m1, k3m2]
  instanceTypes := #[.int, .int]
  staticTypes := #[.int, (.object "com/example/fetch_plan/fetchplan/Page")]
  resolved := Array.replicate 96 none
  statics := none }

def pool4 : Array CpInfo := pool [(8, .class_ 10), (1, u "java/lang/Iterable"), (24, .class_ 36), (0, u "java/lang/Object")] 25

/-- java/lang/Iterable -/
def k4 : Class := { plain "java/lang/Iterable" (some 0) with
  accessFlags := 1537
  interfaces := #[]
  cf := some (fileOf pool4 8 #[] #[] 1537 35 #[] #[])
  fields := #[]
  methods := #[]
  instanceTypes := #[]
  staticTypes := #[]
  resolved := Array.replicate 62 none
  statics := none }

def pool5 : Array CpInfo := pool [(10, .class_ 12), (1, u "java/util/Collection"), (47, .class_ 61), (0, u "java/lang/Object"), (0, .class_ 63), (0, u "java/lang/Iterable")] 51

/-- java/util/Collection -/
def k5 : Class := { plain "java/util/Collection" (some 0) with
  accessFlags := 1537
  interfaces := #[4]
  cf := some (fileOf pool5 10 #[] #[] 1537 60 #[62] #[])
  fields := #[]
  methods := #[]
  instanceTypes := #[]
  staticTypes := #[]
  resolved := Array.replicate 115 none
  statics := none }

def pool6 : Array CpInfo := pool [(8, .class_ 10), (1, u "java/util/SequencedCollection"), (15, .class_ 27), (0, u "java/lang/Object"), (0, .class_ 29), (0, u "java/util/Collection")] 27

/-- java/util/SequencedCollection -/
def k6 : Class := { plain "java/util/SequencedCollection" (some 0) with
  accessFlags := 1537
  interfaces := #[5]
  cf := some (fileOf pool6 8 #[] #[] 1537 26 #[28] #[])
  fields := #[]
  methods := #[]
  instanceTypes := #[]
  staticTypes := #[]
  resolved := Array.replicate 57 none
  statics := none }

def pool7 : Array CpInfo := pool [(8, .class_ 10), (1, u "java/util/List"), (37, u "<init>"), (26, u "get"), (0, u "(I)Ljava/lang/Object;"), (2, u "size"), (0, u "()I"), (7, u "of"), (1, .fieldref 91 92), (0, .class_ 93), (0, .nameAndType 94 95), (0, u "java/util/ImmutableCollections"), (0, u "EMPTY_LIST"), (0, u "Ljava/util/ImmutableCollections$ListN;"), (0, .class_ 97), (0, u "java/util/ImmutableCollections$List12"), (2, .methodref 96 101), (0, .nameAndType 48 102), (0, u "(Ljava/lang/Object;Ljava/lang/Object;)V"), (0, .class_ 104), (0, u "java/lang/Object"), (14, u "()Ljava/util/List;"), (0, .class_ 121), (0, u "java/util/SequencedCollection"), (79, u "(Ljava/lang/Object;Ljava/lang/Object;)Ljava/util/List;")] 49

def k7m0 : Method := { name := "size", desc := "()I", sig := { parameters := [], returnType := some .int }, accessFlags := 1025, code := none }
def k7m1 : Method := { name := "get", desc := "(I)Ljava/lang/Object;", sig := { parameters := [.int], returnType := some (.object "java/lang/Object") }, accessFlags := 1025, code := none }
def k7c2 : Code := { maxStack := 1, maxLocals := 0, code := jdk_40_method_36_code, exceptionTable := #[], attributes := #[] }
def k7m2 : Method := { name := "of", desc := "()Ljava/util/List;", sig := { parameters := [], returnType := some (.object "java/util/List") }, accessFlags := 9, code := some k7c2 }
def k7c3 : Code := { maxStack := 4, maxLocals := 2, code := jdk_40_method_38_code, exceptionTable := #[], attributes := #[] }
def k7m3 : Method := { name := "of", desc := "(Ljava/lang/Object;Ljava/lang/Object;)Ljava/util/List;", sig := { parameters := [(.object "java/lang/Object"), (.object "java/lang/Object")], returnType := some (.object "java/util/List") }, accessFlags := 9, code := some k7c3 }
/-- java/util/List -/
def k7 : Class := { plain "java/util/List" (some 0) with
  accessFlags := 1537
  interfaces := #[6]
  cf := some (fileOf pool7 8 #[] #[{ accessFlags := 1025, nameIndex := 79, descriptorIndex := 80, attributes := #[] }, { accessFlags := 1025, nameIndex := 75, descriptorIndex := 76, attributes := #[] }, { accessFlags := 9, nameIndex := 88, descriptorIndex := 119, attributes := #[] }, { accessFlags := 9, nameIndex := 88, descriptorIndex := 201, attributes := #[] }] 1537 103 #[120] #[])
  fields := #[]
  methods := #[k7m0, k7m1, k7m2, k7m3]
  instanceTypes := #[]
  staticTypes := #[]
  resolved := Array.replicate 251 none
  statics := none }

def pool8 : Array CpInfo := pool [(2, .class_ 4), (1, u "java/lang/Object"), (0, u "<init>"), (0, u "()V"), (3, .class_ 11), (0, u "java/util/ImmutableCollections$List12"), (0, .class_ 13), (0, u "java/util/ImmutableCollections$ListN"), (3, u "Z"), (29, .class_ 49), (1, u "java/util/ImmutableCollections"), (0, u "$assertionsDisabled"), (5, u "[Ljava/lang/Object;"), (5, u "EMPTY_LIST"), (0, u "Ljava/util/ImmutableCollections$ListN;"), (8, u "EMPTY_LIST_NULLS"), (22, u "SALT32L"), (0, u "J"), (2, u "REVERSE"), (6, u "archivedObjects"), (2, u "EMPTY"), (0, u "Ljava/lang/Object;"), (0, .class_ 112), (0, u "java/util/ImmutableCollections$SetN"), (5, u "EMPTY_SET"), (0, u "Ljava/util/ImmutableCollections$SetN;"), (0, .class_ 121), (0, u "java/util/ImmutableCollections$MapN"), (3, u "EMPTY_MAP"), (0, u "Ljava/util/ImmutableCollections$MapN;"), (4, u "EXPAND_FACTOR"), (0, u "I"), (36, .class_ 170), (0, u "java/util/ImmutableCollections$MapN$MapNIterator"), (0, .class_ 172), (0, u "java/util/ImmutableCollections$MapN$1"), (0, .class_ 174), (0, u "java/util/ImmutableCollections$Map1"), (0, .class_ 176), (0, u "java/util/ImmutableCollections$AbstractImmutableMap"), (0, .class_ 178), (0, u "java/util/ImmutableCollections$SetN$SetNIterator"), (0, .class_ 180), (0, u "java/util/ImmutableCollections$Set12"), (0, .class_ 182), (0, u "java/util/ImmutableCollections$Set12$1"), (0, .class_ 184), (0, u "java/util/ImmutableCollections$AbstractImmutableSet"), (0, .class_ 186), (0, u "java/util/ImmutableCollections$SubList"), (0, .class_ 188), (0, u "java/util/ImmutableCollections$ListItr"), (0, .class_ 190), (0, u "java/util/ImmutableCollections$AbstractImmutableList"), (0, .class_ 192), (0, u "java/util/ImmutableCollections$AbstractImmutableCollection"), (0, .class_ 194), (0, u "java/util/ImmutableCollections$Access"), (0, .class_ 196), (0, u "java/util/ImmutableCollections$Access$1")] 16

def k8m0 : Method := { name := "<init>", desc := "()V", sig := { parameters := [], returnType := none }, accessFlags := 2, code := none }
/-- java/util/ImmutableCollections -/
def k8 : Class := { plain "java/util/ImmutableCollections" (some 0) with
  accessFlags := 32
  interfaces := #[]
  cf := some (fileOf pool8 47 #[.nestMembers #[120, 169, 171, 173, 175, 111, 177, 179, 181, 183, 12, 10, 185, 187, 189, 191, 193, 195]] #[{ accessFlags := 2, nameIndex := 5, descriptorIndex := 6, attributes := #[] }] 32 2 #[] #[{ accessFlags := 26, nameIndex := 95, descriptorIndex := 96, attributes := #[] }, { accessFlags := 26, nameIndex := 99, descriptorIndex := 17, attributes := #[] }, { accessFlags := 10, nameIndex := 106, descriptorIndex := 56, attributes := #[] }, { accessFlags := 26, nameIndex := 109, descriptorIndex := 110, attributes := #[] }, { accessFlags := 24, nameIndex := 62, descriptorIndex := 63, attributes := #[] }, { accessFlags := 24, nameIndex := 72, descriptorIndex := 63, attributes := #[] }, { accessFlags := 24, nameIndex := 118, descriptorIndex := 119, attributes := #[] }, { accessFlags := 24, nameIndex := 125, descriptorIndex := 126, attributes := #[] }, { accessFlags := 24, nameIndex := 131, descriptorIndex := 132, attributes := #[] }, { accessFlags := 4120, nameIndex := 50, descriptorIndex := 17, attributes := #[] }])
  fields := #[{ name := "SALT32L", type := .long, accessFlags := 26, slot := 0, constantValue := 0 }, { name := "REVERSE", type := .boolean, accessFlags := 26, slot := 1, constantValue := 0 }, { name := "archivedObjects", type := (.array (.object "java/lang/Object")), accessFlags := 10, slot := 2, constantValue := 0 }, { name := "EMPTY", type := (.object "java/lang/Object"), accessFlags := 26, slot := 3, constantValue := 0 }, { name := "EMPTY_LIST", type := (.object "java/util/ImmutableCollections$ListN"), accessFlags := 24, slot := 4, constantValue := 0 }, { name := "EMPTY_LIST_NULLS", type := (.object "java/util/ImmutableCollections$ListN"), accessFlags := 24, slot := 5, constantValue := 0 }, { name := "EMPTY_SET", type := (.object "java/util/ImmutableCollections$SetN"), accessFlags := 24, slot := 6, constantValue := 0 }, { name := "EMPTY_MAP", type := (.object "java/util/ImmutableCollections$MapN"), accessFlags := 24, slot := 7, constantValue := 0 }, { name := "EXPAND_FACTOR", type := .int, accessFlags := 24, slot := 8, constantValue := 0 }, { name := "$assertionsDisabled", type := .boolean, accessFlags := 4120, slot := 9, constantValue := 0 }]
  methods := #[k8m0]
  instanceTypes := #[]
  staticTypes := #[.long, .boolean, (.array (.object "java/lang/Object")), (.object "java/lang/Object"), (.object "java/util/ImmutableCollections$ListN"), (.object "java/util/ImmutableCollections$ListN"), (.object "java/util/ImmutableCollections$SetN"), (.object "java/util/ImmutableCollections$MapN"), .int, .boolean]
  resolved := Array.replicate 213 none
  statics := some 0 }

def pool9 : Array CpInfo := pool [(1, .methodref 2 3), (0, .class_ 4), (0, .nameAndType 5 6), (0, u "java/lang/Object"), (0, u "<init>"), (0, u "()V"), (1, .class_ 10), (1, u "java/util/AbstractCollection"), (66, .class_ 78), (0, u "java/util/Collection")] 81

def k9c0 : Code := { maxStack := 1, maxLocals := 1, code := jdk_22_method_1_code, exceptionTable := #[], attributes := #[] }
def k9m0 : Method := { name := "<init>", desc := "()V", sig := { parameters := [], returnType := none }, accessFlags := 4, code := some k9c0 }
/-- java/util/AbstractCollection -/
def k9 : Class := { plain "java/util/AbstractCollection" (some 0) with
  accessFlags := 1057
  interfaces := #[5]
  cf := some (fileOf pool9 8 #[] #[{ accessFlags := 4, nameIndex := 5, descriptorIndex := 6, attributes := #[] }] 1057 2 #[77] #[])
  fields := #[]
  methods := #[k9m0]
  instanceTypes := #[]
  staticTypes := #[]
  resolved := Array.replicate 160 none
  statics := none }

def pool10 : Array CpInfo := pool [(1, .methodref 2 3), (0, .class_ 4), (0, .nameAndType 5 6), (0, u "java/util/AbstractCollection"), (0, u "<init>"), (0, u "()V"), (1, .class_ 10), (1, u "java/util/ImmutableCollections"), (2, .class_ 14), (0, u "java/util/ImmutableCollections$AbstractImmutableCollection")] 41

def k10c0 : Code := { maxStack := 1, maxLocals := 1, code := jdk_47_method_1_code, exceptionTable := #[], attributes := #[] }
def k10m0 : Method := { name := "<init>", desc := "()V", sig := { parameters := [], returnType := none }, accessFlags := 0, code := some k10c0 }
/-- java/util/ImmutableCollections$AbstractImmutableCollection -/
def k10 : Class := { plain "java/util/ImmutableCollections$AbstractImmutableCollection" (some 9) with
  accessFlags := 1056
  interfaces := #[]
  cf := some (fileOf pool10 13 #[.nestHost 8] #[{ accessFlags := 0, nameIndex := 5, descriptorIndex := 6, attributes := #[] }] 1056 2 #[] #[])
  fields := #[]
  methods := #[k10m0]
  instanceTypes := #[]
  staticTypes := #[]
  resolved := Array.replicate 56 none
  statics := none }

def pool11 : Array CpInfo := pool [(1, .class_ 2), (0, u "java/util/RandomAccess"), (0, .class_ 4), (0, u "java/lang/Object")] 2

/-- java/util/RandomAccess -/
def k11 : Class := { plain "java/util/RandomAccess" (some 0) with
  accessFlags := 1537
  interfaces := #[]
  cf := some (fileOf pool11 1 #[] #[] 1537 3 #[] #[])
  fields := #[]
  methods := #[]
  instanceTypes := #[]
  staticTypes := #[]
  resolved := Array.replicate 7 none
  statics := none }

def pool12 : Array CpInfo := pool [(1, .methodref 2 3), (0, .class_ 4), (0, .nameAndType 5 6), (0, u "java/util/ImmutableCollections$AbstractImmutableCollection"), (0, u "<init>"), (0, u "()V"), (1, .class_ 10), (1, u "java/util/ImmutableCollections"), (3, .class_ 16), (1, u "java/util/ImmutableCollections$AbstractImmutableList"), (60, .class_ 78), (0, u "java/util/List"), (45, .class_ 125), (0, u "java/util/RandomAccess")] 70

def k12c0 : Code := { maxStack := 1, maxLocals := 1, code := jdk_46_method_1_code, exceptionTable := #[], attributes := #[] }
def k12m0 : Method := { name := "<init>", desc := "()V", sig := { parameters := [], returnType := none }, accessFlags := 0, code := some k12c0 }
/-- java/util/ImmutableCollections$AbstractImmutableList -/
def k12 : Class := { plain "java/util/ImmutableCollections$AbstractImmutableList" (some 10) with
  accessFlags := 1056
  interfaces := #[7, 11]
  cf := some (fileOf pool12 14 #[.nestHost 8] #[{ accessFlags := 0, nameIndex := 5, descriptorIndex := 6, attributes := #[] }] 1056 2 #[77, 124] #[])
  fields := #[]
  methods := #[k12m0]
  instanceTypes := #[]
  staticTypes := #[]
  resolved := Array.replicate 196 none
  statics := none }

def pool13 : Array CpInfo := pool [(1, .class_ 2), (0, u "java/io/Serializable"), (0, .class_ 4), (0, u "java/lang/Object")] 2

/-- java/io/Serializable -/
def k13 : Class := { plain "java/io/Serializable" (some 0) with
  accessFlags := 1537
  interfaces := #[]
  cf := some (fileOf pool13 1 #[] #[] 1537 3 #[] #[])
  fields := #[]
  methods := #[]
  instanceTypes := #[]
  staticTypes := #[]
  resolved := Array.replicate 7 none
  statics := none }

def pool14 : Array CpInfo := pool [(2, .class_ 4), (1, u "java/util/ImmutableCollections$AbstractImmutableList"), (2, .fieldref 8 9), (0, .class_ 10), (0, .nameAndType 11 12), (0, u "java/util/ImmutableCollections$ListN"), (0, u "elements"), (0, u "[Ljava/lang/Object;"), (2, u "allowNulls"), (0, u "Z"), (42, .class_ 60), (0, u "java/io/Serializable"), (16, u "size"), (0, u "()I"), (35, .class_ 115), (0, u "java/util/ImmutableCollections")] 3

def k14c0 : Code := { maxStack := 1, maxLocals := 1, code := jdk_45_method_3_code, exceptionTable := #[], attributes := #[] }
def k14m0 : Method := { name := "size", desc := "()I", sig := { parameters := [], returnType := some .int }, accessFlags := 1, code := some k14c0 }
/-- java/util/ImmutableCollections$ListN -/
def k14 : Class := { plain "java/util/ImmutableCollections$ListN" (some 12) with
  accessFlags := 48
  interfaces := #[13]
  cf := some (fileOf pool14 8 #[.nestHost 114] #[{ accessFlags := 1, nameIndex := 77, descriptorIndex := 78, attributes := #[] }] 48 2 #[59] #[{ accessFlags := 18, nameIndex := 11, descriptorIndex := 12, attributes := #[] }, { accessFlags := 18, nameIndex := 15, descriptorIndex := 16, attributes := #[] }])
  fields := #[{ name := "elements", type := (.array (.object "java/lang/Object")), accessFlags := 18, slot := 0, constantValue := 0 }, { name := "allowNulls", type := .boolean, accessFlags := 18, slot := 1, constantValue := 0 }]
  methods := #[k14m0]
  instanceTypes := #[(.array (.object "java/lang/Object")), .boolean]
  staticTypes := #[]
  resolved := Array.replicate 119 none
  statics := none }

def pool15 : Array CpInfo := pool [(1, .methodref 2 3), (0, .class_ 4), (0, .nameAndType 5 6), (0, u "java/lang/Object"), (0, u "<init>"), (0, u "()V"), (1, .class_ 10), (1, u "java/lang/Number"), (2, .class_ 14), (0, u "java/io/Serializable"), (0, u "serialVersionUID"), (0, u "J")] 20

def k15c0 : Code := { maxStack := 1, maxLocals := 1, code := jdk_18_method_1_code, exceptionTable := #[], attributes := #[] }
def k15m0 : Method := { name := "<init>", desc := "()V", sig := { parameters := [], returnType := none }, accessFlags := 1, code := some k15c0 }
/-- java/lang/Number -/
def k15 : Class := { plain "java/lang/Number" (some 0) with
  accessFlags := 1057
  interfaces := #[13]
  cf := some (fileOf pool15 8 #[] #[{ accessFlags := 1, nameIndex := 5, descriptorIndex := 6, attributes := #[] }] 1057 2 #[13] #[{ accessFlags := 26, nameIndex := 15, descriptorIndex := 16, attributes := #[] }])
  fields := #[{ name := "serialVersionUID", type := .long, accessFlags := 26, slot := 0, constantValue := 0 }]
  methods := #[k15m0]
  instanceTypes := #[]
  staticTypes := #[.long]
  resolved := Array.replicate 37 none
  statics := none }

def pool16 : Array CpInfo := pool [(1, .class_ 2), (0, u "java/lang/Comparable"), (0, .class_ 4), (0, u "java/lang/Object")] 7

/-- java/lang/Comparable -/
def k16 : Class := { plain "java/lang/Comparable" (some 0) with
  accessFlags := 1537
  interfaces := #[]
  cf := some (fileOf pool16 1 #[] #[] 1537 3 #[] #[])
  fields := #[]
  methods := #[]
  instanceTypes := #[]
  staticTypes := #[]
  resolved := Array.replicate 12 none
  statics := none }

def pool17 : Array CpInfo := pool [(1, .class_ 2), (0, u "java/lang/constant/Constable"), (0, .class_ 4), (0, u "java/lang/Object")] 6

/-- java/lang/constant/Constable -/
def k17 : Class := { plain "java/lang/constant/Constable" (some 0) with
  accessFlags := 1537
  interfaces := #[]
  cf := some (fileOf pool17 1 #[] #[] 1537 3 #[] #[])
  fields := #[]
  methods := #[]
  instanceTypes := #[]
  staticTypes := #[]
  resolved := Array.replicate 11 none
  statics := none }

def pool18 : Array CpInfo := pool [(1, .class_ 2), (0, u "java/lang/constant/ConstantDesc"), (0, .class_ 4), (0, u "java/lang/Object")] 32

/-- java/lang/constant/ConstantDesc -/
def k18 : Class := { plain "java/lang/constant/ConstantDesc" (some 0) with
  accessFlags := 1537
  interfaces := #[]
  cf := some (fileOf pool18 1 #[] #[] 1537 3 #[] #[])
  fields := #[]
  methods := #[]
  instanceTypes := #[]
  staticTypes := #[]
  resolved := Array.replicate 37 none
  statics := none }

def pool19 : Array CpInfo := pool [(1, .class_ 2), (0, u "java/lang/Integer"), (16, u "digits"), (0, u "[C"), (46, u "<init>"), (17, u "DigitOnes"), (0, u "[B"), (2, u "DigitTens"), (10, .nameAndType 67 101), (0, u "()V"), (19, u "()I"), (65, u "valueOf"), (0, u "(I)Ljava/lang/Integer;"), (0, .class_ 190), (0, u "java/lang/Integer$IntegerCache"), (0, .fieldref 189 192), (0, .nameAndType 193 194), (0, u "high"), (0, u "I"), (0, .fieldref 189 196), (0, .nameAndType 197 198), (0, u "cache"), (0, u "[Ljava/lang/Integer;"), (0, .methodref 1 200), (0, .nameAndType 67 201), (0, u "(I)V"), (0, .methodref 203 100), (0, .class_ 204), (0, u "java/lang/Number"), (0, .fieldref 1 206), (0, .nameAndType 207 194), (0, u "value"), (5, u "intValue"), (88, u "TYPE"), (0, u "Ljava/lang/Class;"), (0, .class_ 305), (0, u "java/lang/Comparable"), (0, .class_ 307), (0, u "java/lang/constant/Constable"), (0, .class_ 309), (0, u "java/lang/constant/ConstantDesc"), (0, u "MIN_VALUE"), (1, u "MAX_VALUE"), (3, u "SIZE"), (1, u "BYTES"), (1, u "serialVersionUID"), (0, u "J")] 131

def k19c0 : Code := { maxStack := 3, maxLocals := 1, code := jdk_33_method_22_code, exceptionTable := #[], attributes := #[] }
def k19m0 : Method := { name := "valueOf", desc := "(I)Ljava/lang/Integer;", sig := { parameters := [.int], returnType := some (.object "java/lang/Integer") }, accessFlags := 9, code := some k19c0 }
def k19c1 : Code := { maxStack := 2, maxLocals := 2, code := jdk_33_method_23_code, exceptionTable := #[], attributes := #[] }
def k19m1 : Method := { name := "<init>", desc := "(I)V", sig := { parameters := [.int], returnType := none }, accessFlags := 1, code := some k19c1 }
def k19c2 : Code := { maxStack := 1, maxLocals := 1, code := jdk_33_method_27_code, exceptionTable := #[], attributes := #[] }
def k19m2 : Method := { name := "intValue", desc := "()I", sig := { parameters := [], returnType := some .int }, accessFlags := 1, code := some k19c2 }
/-- java/lang/Integer -/
def k19 : Class := { plain "java/lang/Integer" (some 15) with
  accessFlags := 49
  interfaces := #[16, 17, 18]
  cf := some (fileOf pool19 1 #[.nestMembers #[189]] #[{ accessFlags := 9, nameIndex := 187, descriptorIndex := 188, attributes := #[] }, { accessFlags := 1, nameIndex := 67, descriptorIndex := 201, attributes := #[] }, { accessFlags := 1, nameIndex := 213, descriptorIndex := 121, attributes := #[] }] 49 203 #[304, 306, 308] #[{ accessFlags := 25, nameIndex := 310, descriptorIndex := 194, attributes := #[] }, { accessFlags := 25, nameIndex := 312, descriptorIndex := 194, attributes := #[] }, { accessFlags := 25, nameIndex := 302, descriptorIndex := 303, attributes := #[] }, { accessFlags := 24, nameIndex := 19, descriptorIndex := 20, attributes := #[] }, { accessFlags := 24, nameIndex := 89, descriptorIndex := 86, attributes := #[] }, { accessFlags := 24, nameIndex := 85, descriptorIndex := 86, attributes := #[] }, { accessFlags := 18, nameIndex := 207, descriptorIndex := 194, attributes := #[] }, { accessFlags := 25, nameIndex := 316, descriptorIndex := 194, attributes := #[] }, { accessFlags := 25, nameIndex := 318, descriptorIndex := 194, attributes := #[] }, { accessFlags := 26, nameIndex := 320, descriptorIndex := 321, attributes := #[] }])
  fields := #[{ name := "MIN_VALUE", type := .int, accessFlags := 25, slot := 0, constantValue := 0 }, { name := "MAX_VALUE", type := .int, accessFlags := 25, slot := 1, constantValue := 0 }, { name := "TYPE", type := (.object "java/lang/Class"), accessFlags := 25, slot := 2, constantValue := 0 }, { name := "digits", type := (.array .char), accessFlags := 24, slot := 3, constantValue := 0 }, { name := "DigitTens", type := (.array .byte), accessFlags := 24, slot := 4, constantValue := 0 }, { name := "DigitOnes", type := (.array .byte), accessFlags := 24, slot := 5, constantValue := 0 }, { name := "value", type := .int, accessFlags := 18, slot := 0, constantValue := 0 }, { name := "SIZE", type := .int, accessFlags := 25, slot := 6, constantValue := 0 }, { name := "BYTES", type := .int, accessFlags := 25, slot := 7, constantValue := 0 }, { name := "serialVersionUID", type := .long, accessFlags := 26, slot := 8, constantValue := 0 }]
  methods := #[k19m0, k19m1, k19m2]
  instanceTypes := #[.int]
  staticTypes := #[.int, .int, (.object "java/lang/Class"), (.array .char), (.array .byte), (.array .byte), .int, .int, .long]
  resolved := Array.replicate 453 none
  statics := none }

def pool20 : Array CpInfo := pool [(2, .class_ 4), (1, u "java/lang/Object"), (0, u "<init>"), (0, u "()V"), (0, .class_ 8), (0, u "java/lang/Integer"), (7, .class_ 18), (1, u "java/lang/Integer$IntegerCache"), (0, u "$assertionsDisabled"), (0, u "Z"), (26, u "high"), (0, u "I"), (8, u "archivedCache"), (0, u "[Ljava/lang/Integer;"), (12, u "cache"), (0, u "low")] 27

def k20m0 : Method := { name := "<init>", desc := "()V", sig := { parameters := [], returnType := none }, accessFlags := 2, code := none }
/-- java/lang/Integer$IntegerCache -/
def k20 : Class := { plain "java/lang/Integer$IntegerCache" (some 0) with
  accessFlags := 48
  interfaces := #[]
  cf := some (fileOf pool20 16 #[.nestHost 7] #[{ accessFlags := 2, nameIndex := 5, descriptorIndex := 6, attributes := #[] }] 48 2 #[] #[{ accessFlags := 24, nameIndex := 72, descriptorIndex := 48, attributes := #[] }, { accessFlags := 24, nameIndex := 47, descriptorIndex := 48, attributes := #[] }, { accessFlags := 24, nameIndex := 71, descriptorIndex := 58, attributes := #[] }, { accessFlags := 8, nameIndex := 57, descriptorIndex := 58, attributes := #[] }, { accessFlags := 4120, nameIndex := 19, descriptorIndex := 20, attributes := #[] }])
  fields := #[{ name := "low", type := .int, accessFlags := 24, slot := 0, constantValue := 0 }, { name := "high", type := .int, accessFlags := 24, slot := 1, constantValue := 0 }, { name := "cache", type := (.array (.object "java/lang/Integer")), accessFlags := 24, slot := 2, constantValue := 0 }, { name := "archivedCache", type := (.array (.object "java/lang/Integer")), accessFlags := 8, slot := 3, constantValue := 0 }, { name := "$assertionsDisabled", type := .boolean, accessFlags := 4120, slot := 4, constantValue := 0 }]
  methods := #[k20m0]
  instanceTypes := #[]
  staticTypes := #[.int, .int, (.array (.object "java/lang/Integer")), (.array (.object "java/lang/Integer")), .boolean]
  resolved := Array.replicate 100 none
  statics := some 1 }

def pool21 : Array CpInfo := pool [(1, .methodref 2 3), (0, .class_ 4), (0, .nameAndType 5 6), (0, u "java/util/ImmutableCollections$AbstractImmutableList"), (0, u "<init>"), (0, u "()V"), (0, .methodref 8 9), (0, .class_ 10), (0, .nameAndType 11 12), (0, u "java/util/Objects"), (0, u "requireNonNull"), (0, u "(Ljava/lang/Object;)Ljava/lang/Object;"), (0, .fieldref 14 15), (0, .class_ 16), (0, .nameAndType 17 18), (0, u "java/util/ImmutableCollections$List12"), (0, u "e0"), (0, u "Ljava/lang/Object;"), (0, .fieldref 20 21), (0, .class_ 22), (0, .nameAndType 23 18), (0, u "java/util/ImmutableCollections"), (0, u "EMPTY"), (0, .fieldref 14 25), (0, .nameAndType 26 18), (0, u "e1"), (24, u "size"), (0, u "()I"), (17, .class_ 71), (0, u "java/io/Serializable"), (13, u "(Ljava/lang/Object;Ljava/lang/Object;)V"), (4, u "get"), (0, u "(I)Ljava/lang/Object;")] 33

def k21c0 : Code := { maxStack := 2, maxLocals := 3, code := jdk_44_method_2_code, exceptionTable := #[], attributes := #[] }
def k21m0 : Method := { name := "<init>", desc := "(Ljava/lang/Object;Ljava/lang/Object;)V", sig := { parameters := [(.object "java/lang/Object"), (.object "java/lang/Object")], returnType := none }, accessFlags := 0, code := some k21c0 }
def k21c1 : Code := { maxStack := 2, maxLocals := 1, code := jdk_44_method_3_code, exceptionTable := #[], attributes := #[] }
def k21m1 : Method := { name := "size", desc := "()I", sig := { parameters := [], returnType := some .int }, accessFlags := 1, code := some k21c1 }
def k21c2 : Code := { maxStack := 2, maxLocals := 2, code := jdk_44_method_5_code, exceptionTable := #[], attributes := #[] }
def k21m2 : Method := { name := "get", desc := "(I)Ljava/lang/Object;", sig := { parameters := [.int], returnType := some (.object "java/lang/Object") }, accessFlags := 1, code := some k21c2 }
/-- java/util/ImmutableCollections$List12 -/
def k21 : Class := { plain "java/util/ImmutableCollections$List12" (some 12) with
  accessFlags := 48
  interfaces := #[13]
  cf := some (fileOf pool21 14 #[.nestHost 20] #[{ accessFlags := 0, nameIndex := 5, descriptorIndex := 85, attributes := #[] }, { accessFlags := 1, nameIndex := 51, descriptorIndex := 52, attributes := #[] }, { accessFlags := 1, nameIndex := 90, descriptorIndex := 91, attributes := #[] }] 48 2 #[70] #[{ accessFlags := 18, nameIndex := 17, descriptorIndex := 18, attributes := #[] }, { accessFlags := 18, nameIndex := 26, descriptorIndex := 18, attributes := #[] }])
  fields := #[{ name := "e0", type := (.object "java/lang/Object"), accessFlags := 18, slot := 0, constantValue := 0 }, { name := "e1", type := (.object "java/lang/Object"), accessFlags := 18, slot := 1, constantValue := 0 }]
  methods := #[k21m0, k21m1, k21m2]
  instanceTypes := #[(.object "java/lang/Object"), (.object "java/lang/Object")]
  staticTypes := #[]
  resolved := Array.replicate 125 none
  statics := none }

def pool22 : Array CpInfo := pool [(2, .class_ 4), (1, u "java/lang/Object"), (0, u "<init>"), (0, u "()V"), (35, .class_ 44), (1, u "java/util/Objects"), (0, u "requireNonNull"), (0, u "(Ljava/lang/Object;)Ljava/lang/Object;")] 137

def k22m0 : Method := { name := "<init>", desc := "()V", sig := { parameters := [], returnType := none }, accessFlags := 2, code := none }
def k22c1 : Code := { maxStack := 2, maxLocals := 1, code := jdk_31_method_10_code, exceptionTable := #[], attributes := #[] }
def k22m1 : Method := { name := "requireNonNull", desc := "(Ljava/lang/Object;)Ljava/lang/Object;", sig := { parameters := [(.object "java/lang/Object")], returnType := some (.object "java/lang/Object") }, accessFlags := 9, code := some k22c1 }
/-- java/util/Objects -/
def k22 : Class := { plain "java/util/Objects" (some 0) with
  accessFlags := 49
  interfaces := #[]
  cf := some (fileOf pool22 42 #[] #[{ accessFlags := 2, nameIndex := 5, descriptorIndex := 6, attributes := #[] }, { accessFlags := 9, nameIndex := 45, descriptorIndex := 46, attributes := #[] }] 49 2 #[] #[])
  fields := #[]
  methods := #[k22m0, k22m1]
  instanceTypes := #[]
  staticTypes := #[]
  resolved := Array.replicate 184 none
  statics := none }

def pool23 : Array CpInfo := pool [(1, u "java/lang/Cloneable"), (0, .class_ 1), (0, u "java/lang/Object"), (0, .class_ 3)] 3

/-- java/lang/Cloneable -/
def k23 : Class := { plain "java/lang/Cloneable" (some 0) with
  accessFlags := 1537
  interfaces := #[]
  cf := some (fileOf pool23 2 #[] #[] 1537 4 #[] #[])
  fields := #[]
  methods := #[]
  instanceTypes := #[]
  staticTypes := #[]
  resolved := Array.replicate 8 none
  statics := none }

/-- the primitive byte -/
def k24 : Class := { plain "byte" none with kind := .primitive 'B', accessFlags := 0x411 }
/-- [B -/
def k25 : Class := { plain "[B" (some 0) with kind := .array 24 .byte, interfaces := #[23, 13], accessFlags := 1041 }

/-- the primitive int -/
def k26 : Class := { plain "int" none with kind := .primitive 'I', accessFlags := 0x411 }
/-- [I -/
def k27 : Class := { plain "[I" (some 0) with kind := .array 26 .int, interfaces := #[23, 13], accessFlags := 1041 }

/-- [Ljava/lang/Integer; -/
def k28 : Class := { plain "[Ljava/lang/Integer;" (some 0) with kind := .array 19 (.object "java/lang/Integer"), interfaces := #[23, 13], accessFlags := 1041 }

/-- [Ljava/lang/Object; -/
def k29 : Class := { plain "[Ljava/lang/Object;" (some 0) with kind := .array 0 (.object "java/lang/Object"), interfaces := #[23, 13], accessFlags := 1041 }

def heap : Heap := #[{ cls := 8, slots := #[.long 0, .int 0, .null, .ref 261, .ref 4, .null, .null, .null, .int 0, .int 1], vm := .statics 8 },
  { cls := 20, slots := #[.int 0, .int 127, .ref 3, .null, .int 0], vm := .statics 20 },
  { cls := 29, slots := #[], vm := .none },
  { cls := 28, slots := #[.ref 5, .ref 6, .ref 7, .ref 8, .ref 9, .ref 10, .ref 11, .ref 12, .ref 13, .ref 14, .ref 15, .ref 16, .ref 17, .ref 18, .ref 19, .ref 20, .ref 21, .ref 22, .ref 23, .ref 24, .ref 25, .ref 26, .ref 27, .ref 28, .ref 29, .ref 30, .ref 31, .ref 32, .ref 33, .ref 34, .ref 35, .ref 36, .ref 37, .ref 38, .ref 39, .ref 40, .ref 41, .ref 42, .ref 43, .ref 44, .ref 45, .ref 46, .ref 47, .ref 48, .ref 49, .ref 50, .ref 51, .ref 52, .ref 53, .ref 54, .ref 55, .ref 56, .ref 57, .ref 58, .ref 59, .ref 60, .ref 61, .ref 62, .ref 63, .ref 64, .ref 65, .ref 66, .ref 67, .ref 68, .ref 69, .ref 70, .ref 71, .ref 72, .ref 73, .ref 74, .ref 75, .ref 76, .ref 77, .ref 78, .ref 79, .ref 80, .ref 81, .ref 82, .ref 83, .ref 84, .ref 85, .ref 86, .ref 87, .ref 88, .ref 89, .ref 90, .ref 91, .ref 92, .ref 93, .ref 94, .ref 95, .ref 96, .ref 97, .ref 98, .ref 99, .ref 100, .ref 101, .ref 102, .ref 103, .ref 104, .ref 105, .ref 106, .ref 107, .ref 108, .ref 109, .ref 110, .ref 111, .ref 112, .ref 113, .ref 114, .ref 115, .ref 116, .ref 117, .ref 118, .ref 119, .ref 120, .ref 121, .ref 122, .ref 123, .ref 124, .ref 125, .ref 126, .ref 127, .ref 128, .ref 129, .ref 130, .ref 131, .ref 132, .ref 133, .ref 134, .ref 135, .ref 136, .ref 137, .ref 138, .ref 139, .ref 140, .ref 141, .ref 142, .ref 143, .ref 144, .ref 145, .ref 146, .ref 147, .ref 148, .ref 149, .ref 150, .ref 151, .ref 152, .ref 153, .ref 154, .ref 155, .ref 156, .ref 157, .ref 158, .ref 159, .ref 160, .ref 161, .ref 162, .ref 163, .ref 164, .ref 165, .ref 166, .ref 167, .ref 168, .ref 169, .ref 170, .ref 171, .ref 172, .ref 173, .ref 174, .ref 175, .ref 176, .ref 177, .ref 178, .ref 179, .ref 180, .ref 181, .ref 182, .ref 183, .ref 184, .ref 185, .ref 186, .ref 187, .ref 188, .ref 189, .ref 190, .ref 191, .ref 192, .ref 193, .ref 194, .ref 195, .ref 196, .ref 197, .ref 198, .ref 199, .ref 200, .ref 201, .ref 202, .ref 203, .ref 204, .ref 205, .ref 206, .ref 207, .ref 208, .ref 209, .ref 210, .ref 211, .ref 212, .ref 213, .ref 214, .ref 215, .ref 216, .ref 217, .ref 218, .ref 219, .ref 220, .ref 221, .ref 222, .ref 223, .ref 224, .ref 225, .ref 226, .ref 227, .ref 228, .ref 229, .ref 230, .ref 231, .ref 232, .ref 233, .ref 234, .ref 235, .ref 236, .ref 237, .ref 238, .ref 239, .ref 240, .ref 241, .ref 242, .ref 243, .ref 244, .ref 245, .ref 246, .ref 247, .ref 248, .ref 249, .ref 250, .ref 251, .ref 252, .ref 253, .ref 254, .ref 255, .ref 256, .ref 257, .ref 258, .ref 259, .ref 260], vm := .none },
  { cls := 14, slots := #[.ref 2, .int 0], vm := .none },
  { cls := 19, slots := #[.int (-128)], vm := .none },
  { cls := 19, slots := #[.int (-127)], vm := .none },
  { cls := 19, slots := #[.int (-126)], vm := .none },
  { cls := 19, slots := #[.int (-125)], vm := .none },
  { cls := 19, slots := #[.int (-124)], vm := .none },
  { cls := 19, slots := #[.int (-123)], vm := .none },
  { cls := 19, slots := #[.int (-122)], vm := .none },
  { cls := 19, slots := #[.int (-121)], vm := .none },
  { cls := 19, slots := #[.int (-120)], vm := .none },
  { cls := 19, slots := #[.int (-119)], vm := .none },
  { cls := 19, slots := #[.int (-118)], vm := .none },
  { cls := 19, slots := #[.int (-117)], vm := .none },
  { cls := 19, slots := #[.int (-116)], vm := .none },
  { cls := 19, slots := #[.int (-115)], vm := .none },
  { cls := 19, slots := #[.int (-114)], vm := .none },
  { cls := 19, slots := #[.int (-113)], vm := .none },
  { cls := 19, slots := #[.int (-112)], vm := .none },
  { cls := 19, slots := #[.int (-111)], vm := .none },
  { cls := 19, slots := #[.int (-110)], vm := .none },
  { cls := 19, slots := #[.int (-109)], vm := .none },
  { cls := 19, slots := #[.int (-108)], vm := .none },
  { cls := 19, slots := #[.int (-107)], vm := .none },
  { cls := 19, slots := #[.int (-106)], vm := .none },
  { cls := 19, slots := #[.int (-105)], vm := .none },
  { cls := 19, slots := #[.int (-104)], vm := .none },
  { cls := 19, slots := #[.int (-103)], vm := .none },
  { cls := 19, slots := #[.int (-102)], vm := .none },
  { cls := 19, slots := #[.int (-101)], vm := .none },
  { cls := 19, slots := #[.int (-100)], vm := .none },
  { cls := 19, slots := #[.int (-99)], vm := .none },
  { cls := 19, slots := #[.int (-98)], vm := .none },
  { cls := 19, slots := #[.int (-97)], vm := .none },
  { cls := 19, slots := #[.int (-96)], vm := .none },
  { cls := 19, slots := #[.int (-95)], vm := .none },
  { cls := 19, slots := #[.int (-94)], vm := .none },
  { cls := 19, slots := #[.int (-93)], vm := .none },
  { cls := 19, slots := #[.int (-92)], vm := .none },
  { cls := 19, slots := #[.int (-91)], vm := .none },
  { cls := 19, slots := #[.int (-90)], vm := .none },
  { cls := 19, slots := #[.int (-89)], vm := .none },
  { cls := 19, slots := #[.int (-88)], vm := .none },
  { cls := 19, slots := #[.int (-87)], vm := .none },
  { cls := 19, slots := #[.int (-86)], vm := .none },
  { cls := 19, slots := #[.int (-85)], vm := .none },
  { cls := 19, slots := #[.int (-84)], vm := .none },
  { cls := 19, slots := #[.int (-83)], vm := .none },
  { cls := 19, slots := #[.int (-82)], vm := .none },
  { cls := 19, slots := #[.int (-81)], vm := .none },
  { cls := 19, slots := #[.int (-80)], vm := .none },
  { cls := 19, slots := #[.int (-79)], vm := .none },
  { cls := 19, slots := #[.int (-78)], vm := .none },
  { cls := 19, slots := #[.int (-77)], vm := .none },
  { cls := 19, slots := #[.int (-76)], vm := .none },
  { cls := 19, slots := #[.int (-75)], vm := .none },
  { cls := 19, slots := #[.int (-74)], vm := .none },
  { cls := 19, slots := #[.int (-73)], vm := .none },
  { cls := 19, slots := #[.int (-72)], vm := .none },
  { cls := 19, slots := #[.int (-71)], vm := .none },
  { cls := 19, slots := #[.int (-70)], vm := .none },
  { cls := 19, slots := #[.int (-69)], vm := .none },
  { cls := 19, slots := #[.int (-68)], vm := .none },
  { cls := 19, slots := #[.int (-67)], vm := .none },
  { cls := 19, slots := #[.int (-66)], vm := .none },
  { cls := 19, slots := #[.int (-65)], vm := .none },
  { cls := 19, slots := #[.int (-64)], vm := .none },
  { cls := 19, slots := #[.int (-63)], vm := .none },
  { cls := 19, slots := #[.int (-62)], vm := .none },
  { cls := 19, slots := #[.int (-61)], vm := .none },
  { cls := 19, slots := #[.int (-60)], vm := .none },
  { cls := 19, slots := #[.int (-59)], vm := .none },
  { cls := 19, slots := #[.int (-58)], vm := .none },
  { cls := 19, slots := #[.int (-57)], vm := .none },
  { cls := 19, slots := #[.int (-56)], vm := .none },
  { cls := 19, slots := #[.int (-55)], vm := .none },
  { cls := 19, slots := #[.int (-54)], vm := .none },
  { cls := 19, slots := #[.int (-53)], vm := .none },
  { cls := 19, slots := #[.int (-52)], vm := .none },
  { cls := 19, slots := #[.int (-51)], vm := .none },
  { cls := 19, slots := #[.int (-50)], vm := .none },
  { cls := 19, slots := #[.int (-49)], vm := .none },
  { cls := 19, slots := #[.int (-48)], vm := .none },
  { cls := 19, slots := #[.int (-47)], vm := .none },
  { cls := 19, slots := #[.int (-46)], vm := .none },
  { cls := 19, slots := #[.int (-45)], vm := .none },
  { cls := 19, slots := #[.int (-44)], vm := .none },
  { cls := 19, slots := #[.int (-43)], vm := .none },
  { cls := 19, slots := #[.int (-42)], vm := .none },
  { cls := 19, slots := #[.int (-41)], vm := .none },
  { cls := 19, slots := #[.int (-40)], vm := .none },
  { cls := 19, slots := #[.int (-39)], vm := .none },
  { cls := 19, slots := #[.int (-38)], vm := .none },
  { cls := 19, slots := #[.int (-37)], vm := .none },
  { cls := 19, slots := #[.int (-36)], vm := .none },
  { cls := 19, slots := #[.int (-35)], vm := .none },
  { cls := 19, slots := #[.int (-34)], vm := .none },
  { cls := 19, slots := #[.int (-33)], vm := .none },
  { cls := 19, slots := #[.int (-32)], vm := .none },
  { cls := 19, slots := #[.int (-31)], vm := .none },
  { cls := 19, slots := #[.int (-30)], vm := .none },
  { cls := 19, slots := #[.int (-29)], vm := .none },
  { cls := 19, slots := #[.int (-28)], vm := .none },
  { cls := 19, slots := #[.int (-27)], vm := .none },
  { cls := 19, slots := #[.int (-26)], vm := .none },
  { cls := 19, slots := #[.int (-25)], vm := .none },
  { cls := 19, slots := #[.int (-24)], vm := .none },
  { cls := 19, slots := #[.int (-23)], vm := .none },
  { cls := 19, slots := #[.int (-22)], vm := .none },
  { cls := 19, slots := #[.int (-21)], vm := .none },
  { cls := 19, slots := #[.int (-20)], vm := .none },
  { cls := 19, slots := #[.int (-19)], vm := .none },
  { cls := 19, slots := #[.int (-18)], vm := .none },
  { cls := 19, slots := #[.int (-17)], vm := .none },
  { cls := 19, slots := #[.int (-16)], vm := .none },
  { cls := 19, slots := #[.int (-15)], vm := .none },
  { cls := 19, slots := #[.int (-14)], vm := .none },
  { cls := 19, slots := #[.int (-13)], vm := .none },
  { cls := 19, slots := #[.int (-12)], vm := .none },
  { cls := 19, slots := #[.int (-11)], vm := .none },
  { cls := 19, slots := #[.int (-10)], vm := .none },
  { cls := 19, slots := #[.int (-9)], vm := .none },
  { cls := 19, slots := #[.int (-8)], vm := .none },
  { cls := 19, slots := #[.int (-7)], vm := .none },
  { cls := 19, slots := #[.int (-6)], vm := .none },
  { cls := 19, slots := #[.int (-5)], vm := .none },
  { cls := 19, slots := #[.int (-4)], vm := .none },
  { cls := 19, slots := #[.int (-3)], vm := .none },
  { cls := 19, slots := #[.int (-2)], vm := .none },
  { cls := 19, slots := #[.int (-1)], vm := .none },
  { cls := 19, slots := #[.int 0], vm := .none },
  { cls := 19, slots := #[.int 1], vm := .none },
  { cls := 19, slots := #[.int 2], vm := .none },
  { cls := 19, slots := #[.int 3], vm := .none },
  { cls := 19, slots := #[.int 4], vm := .none },
  { cls := 19, slots := #[.int 5], vm := .none },
  { cls := 19, slots := #[.int 6], vm := .none },
  { cls := 19, slots := #[.int 7], vm := .none },
  { cls := 19, slots := #[.int 8], vm := .none },
  { cls := 19, slots := #[.int 9], vm := .none },
  { cls := 19, slots := #[.int 10], vm := .none },
  { cls := 19, slots := #[.int 11], vm := .none },
  { cls := 19, slots := #[.int 12], vm := .none },
  { cls := 19, slots := #[.int 13], vm := .none },
  { cls := 19, slots := #[.int 14], vm := .none },
  { cls := 19, slots := #[.int 15], vm := .none },
  { cls := 19, slots := #[.int 16], vm := .none },
  { cls := 19, slots := #[.int 17], vm := .none },
  { cls := 19, slots := #[.int 18], vm := .none },
  { cls := 19, slots := #[.int 19], vm := .none },
  { cls := 19, slots := #[.int 20], vm := .none },
  { cls := 19, slots := #[.int 21], vm := .none },
  { cls := 19, slots := #[.int 22], vm := .none },
  { cls := 19, slots := #[.int 23], vm := .none },
  { cls := 19, slots := #[.int 24], vm := .none },
  { cls := 19, slots := #[.int 25], vm := .none },
  { cls := 19, slots := #[.int 26], vm := .none },
  { cls := 19, slots := #[.int 27], vm := .none },
  { cls := 19, slots := #[.int 28], vm := .none },
  { cls := 19, slots := #[.int 29], vm := .none },
  { cls := 19, slots := #[.int 30], vm := .none },
  { cls := 19, slots := #[.int 31], vm := .none },
  { cls := 19, slots := #[.int 32], vm := .none },
  { cls := 19, slots := #[.int 33], vm := .none },
  { cls := 19, slots := #[.int 34], vm := .none },
  { cls := 19, slots := #[.int 35], vm := .none },
  { cls := 19, slots := #[.int 36], vm := .none },
  { cls := 19, slots := #[.int 37], vm := .none },
  { cls := 19, slots := #[.int 38], vm := .none },
  { cls := 19, slots := #[.int 39], vm := .none },
  { cls := 19, slots := #[.int 40], vm := .none },
  { cls := 19, slots := #[.int 41], vm := .none },
  { cls := 19, slots := #[.int 42], vm := .none },
  { cls := 19, slots := #[.int 43], vm := .none },
  { cls := 19, slots := #[.int 44], vm := .none },
  { cls := 19, slots := #[.int 45], vm := .none },
  { cls := 19, slots := #[.int 46], vm := .none },
  { cls := 19, slots := #[.int 47], vm := .none },
  { cls := 19, slots := #[.int 48], vm := .none },
  { cls := 19, slots := #[.int 49], vm := .none },
  { cls := 19, slots := #[.int 50], vm := .none },
  { cls := 19, slots := #[.int 51], vm := .none },
  { cls := 19, slots := #[.int 52], vm := .none },
  { cls := 19, slots := #[.int 53], vm := .none },
  { cls := 19, slots := #[.int 54], vm := .none },
  { cls := 19, slots := #[.int 55], vm := .none },
  { cls := 19, slots := #[.int 56], vm := .none },
  { cls := 19, slots := #[.int 57], vm := .none },
  { cls := 19, slots := #[.int 58], vm := .none },
  { cls := 19, slots := #[.int 59], vm := .none },
  { cls := 19, slots := #[.int 60], vm := .none },
  { cls := 19, slots := #[.int 61], vm := .none },
  { cls := 19, slots := #[.int 62], vm := .none },
  { cls := 19, slots := #[.int 63], vm := .none },
  { cls := 19, slots := #[.int 64], vm := .none },
  { cls := 19, slots := #[.int 65], vm := .none },
  { cls := 19, slots := #[.int 66], vm := .none },
  { cls := 19, slots := #[.int 67], vm := .none },
  { cls := 19, slots := #[.int 68], vm := .none },
  { cls := 19, slots := #[.int 69], vm := .none },
  { cls := 19, slots := #[.int 70], vm := .none },
  { cls := 19, slots := #[.int 71], vm := .none },
  { cls := 19, slots := #[.int 72], vm := .none },
  { cls := 19, slots := #[.int 73], vm := .none },
  { cls := 19, slots := #[.int 74], vm := .none },
  { cls := 19, slots := #[.int 75], vm := .none },
  { cls := 19, slots := #[.int 76], vm := .none },
  { cls := 19, slots := #[.int 77], vm := .none },
  { cls := 19, slots := #[.int 78], vm := .none },
  { cls := 19, slots := #[.int 79], vm := .none },
  { cls := 19, slots := #[.int 80], vm := .none },
  { cls := 19, slots := #[.int 81], vm := .none },
  { cls := 19, slots := #[.int 82], vm := .none },
  { cls := 19, slots := #[.int 83], vm := .none },
  { cls := 19, slots := #[.int 84], vm := .none },
  { cls := 19, slots := #[.int 85], vm := .none },
  { cls := 19, slots := #[.int 86], vm := .none },
  { cls := 19, slots := #[.int 87], vm := .none },
  { cls := 19, slots := #[.int 88], vm := .none },
  { cls := 19, slots := #[.int 89], vm := .none },
  { cls := 19, slots := #[.int 90], vm := .none },
  { cls := 19, slots := #[.int 91], vm := .none },
  { cls := 19, slots := #[.int 92], vm := .none },
  { cls := 19, slots := #[.int 93], vm := .none },
  { cls := 19, slots := #[.int 94], vm := .none },
  { cls := 19, slots := #[.int 95], vm := .none },
  { cls := 19, slots := #[.int 96], vm := .none },
  { cls := 19, slots := #[.int 97], vm := .none },
  { cls := 19, slots := #[.int 98], vm := .none },
  { cls := 19, slots := #[.int 99], vm := .none },
  { cls := 19, slots := #[.int 100], vm := .none },
  { cls := 19, slots := #[.int 101], vm := .none },
  { cls := 19, slots := #[.int 102], vm := .none },
  { cls := 19, slots := #[.int 103], vm := .none },
  { cls := 19, slots := #[.int 104], vm := .none },
  { cls := 19, slots := #[.int 105], vm := .none },
  { cls := 19, slots := #[.int 106], vm := .none },
  { cls := 19, slots := #[.int 107], vm := .none },
  { cls := 19, slots := #[.int 108], vm := .none },
  { cls := 19, slots := #[.int 109], vm := .none },
  { cls := 19, slots := #[.int 110], vm := .none },
  { cls := 19, slots := #[.int 111], vm := .none },
  { cls := 19, slots := #[.int 112], vm := .none },
  { cls := 19, slots := #[.int 113], vm := .none },
  { cls := 19, slots := #[.int 114], vm := .none },
  { cls := 19, slots := #[.int 115], vm := .none },
  { cls := 19, slots := #[.int 116], vm := .none },
  { cls := 19, slots := #[.int 117], vm := .none },
  { cls := 19, slots := #[.int 118], vm := .none },
  { cls := 19, slots := #[.int 119], vm := .none },
  { cls := 19, slots := #[.int 120], vm := .none },
  { cls := 19, slots := #[.int 121], vm := .none },
  { cls := 19, slots := #[.int 122], vm := .none },
  { cls := 19, slots := #[.int 123], vm := .none },
  { cls := 19, slots := #[.int 124], vm := .none },
  { cls := 19, slots := #[.int 125], vm := .none },
  { cls := 19, slots := #[.int 126], vm := .none },
  { cls := 19, slots := #[.int 127], vm := .none },
  { cls := 0, slots := #[], vm := .none }]
def classes : Array Class := #[k0, k1, k2, k3, k4, k5, k6, k7, k8, k9, k10, k11, k12, k13, k14, k15, k16, k17, k18, k19, k20, k21, k22, k23, k24, k25, k26, k27, k28, k29]
def interned : List (Array UInt16 × Addr) := []
def slotsUsed : Nat := 529
def theMethod : MethodId := ⟨1, 1⟩
def args0 : Array Value := #[.int 5, .int 7, .int 3]
def aboutOver (below : List Frame) : State where
  vm := { classes := classes, interned := interned.toArray }
  heap := heap
  slotsUsed := slotsUsed
  threads := #[{ frames := .invoking theMethod args0 :: below }]
def below0 : List Frame := [.native { method := ⟨0, 0⟩, args := #[] }]
def about1 : State := aboutOver below0
def p0 : Program := .bare "" "" ""
def e0 : Env := launch0.env 0 0 0
theorem w_frames : about1.frames = Frame.invoking theMethod args0 :: below0 := rfl
set_option maxRecDepth 65536 in
theorem w_args : argsFit about1.vm theMethod args0 = true := by decide +kernel
set_option maxRecDepth 65536 in
theorem w_heap : heapFits about1 = true := by decide +kernel
set_option maxRecDepth 65536 in
theorem w_runnable : about1.curStatus? = some .runnable := by decide +kernel
set_option maxRecDepth 65536 in
theorem w_alone : about1.alone = true := by decide +kernel
set_option maxRecDepth 65536 in
theorem w_named : about1.methodNamed? x = some theMethod := by decide +kernel
set_option maxRecDepth 65536 in
theorem w_hears : about1.hears theMethod below0 = true := by decide +kernel
set_option maxRecDepth 65536 in
theorem w_ripe : about1.ripe theMethod args0 below0 = true := by decide +kernel
theorem w_running : about1.status = .running := rfl
set_option maxRecDepth 65536 in
theorem w_room : about1.hasRoom e0.platform room_1 = true :=
  launch0.hasRoom_least _ room_1 (by decide +kernel) (by decide +kernel) (by decide +kernel) (by decide +kernel) (by decide +kernel) (by decide +kernel)
theorem allAtoms_all (ts : List Jvm.Cond) (a : Array Jvm.Value) (st : Jvm.State) : (allAtoms ts).before a st = ts.all (fun c => c.before a st) := by
  induction ts with
  | nil => rfl
  | cons c t ih =>
    show (Jvm.Cond.and c (allAtoms t)).before a st = _
    rw [Jvm.Cond.before_and, ih, List.all_cons]
def words1 : List Jvm.Cond := Jvm.Cond.code x code maxLocals ret :: tables_1
/-- a 'code' word, met by the world's own term for the bytes: nothing is compared byte by byte -/
theorem code_word {y : MethodName} {bytes : ByteArray} {mx : Nat} {rt : Option FieldType} {a : Array Value} {s : State} {m : MethodId} {meth : Method} {c : Code} (h1 : s.methodNamed? y = some m) (h2 : s.vm.method? m = some meth) (h3 : meth.code = some c) (h4 : c.code = bytes)
    (h5 : (c.maxLocals == mx && c.exceptionTable.isEmpty && decide (c.maxStack ≤ mostOperands) && decide (meth.sig.returnType = rt) && !meth.locks && decide (parseMethodDescriptor y.desc = some meth.sig)) = true) : (Jvm.Cond.code y bytes mx rt).before a s = true := by
  simp only [Bool.and_eq_true, beq_iff_eq, Bool.not_eq_true', decide_eq_true_eq] at h5
  obtain ⟨⟨⟨⟨⟨g1, g2⟩, g3⟩, g4⟩, g5⟩, g6⟩ := h5
  simp [Cond.before, Cond.holds, Cond.value, h1, h2, h3, h4, g1, g2, g3, g4, g5, g6]
def isCode : Jvm.Cond → Bool
  | .code _ _ _ _ => true
  | _ => false
theorem all_split {L : List Jvm.Cond} {P : Jvm.Cond → Bool} (h1 : L.all (fun c => isCode c || P c) = true) (h2 : ∀ c ∈ L.filter isCode, P c = true) : L.all P = true := by
  refine List.all_eq_true.mpr fun c hc => ?_
  have h := List.all_eq_true.mp h1 c hc
  rcases Bool.eq_false_or_eq_true (isCode c) with hi | hi
  · exact h2 c (List.mem_filter.mpr ⟨hc, hi⟩)
  · simpa [hi] using h
set_option maxRecDepth 65536 in
theorem w_c0 : (Jvm.Cond.code x code maxLocals ret).before args0 about1 = true := code_word (m := ⟨1, 1⟩) (meth := k1m1) (c := k1c1) (by decide +kernel) rfl rfl rfl (by decide +kernel)
set_option maxRecDepth 65536 in
theorem w_c1 : (Jvm.Cond.code ({ cls := "com/example/fetch_plan/fetchplan/Page", name := "<init>", desc := "(II)V" } : Jvm.MethodName) prog_6_method_1_code (3 : Nat) (Option.none : Option Jvm.ClassFile.FieldType)).before args0 about1 = true := code_word (m := ⟨3, 0⟩) (meth := k3m0) (c := k3c0) (by decide +kernel) rfl rfl rfl (by decide +kernel)
set_option maxRecDepth 65536 in
theorem w_c2 : (Jvm.Cond.code ({ cls := "java/lang/Record", name := "<init>", desc := "()V" } : Jvm.MethodName) jdk_30_method_1_code (1 : Nat) (Option.none : Option Jvm.ClassFile.FieldType)).before args0 about1 = true := code_word (m := ⟨2, 0⟩) (meth := k2m0) (c := k2c0) (by decide +kernel) rfl rfl rfl (by decide +kernel)
set_option maxRecDepth 65536 in
theorem w_c3 : (Jvm.Cond.code ({ cls := "java/lang/Object", name := "<init>", desc := "()V" } : Jvm.MethodName) object_method_1_code (1 : Nat) (Option.none : Option Jvm.ClassFile.FieldType)).before args0 about1 = true := code_word (m := ⟨0, 0⟩) (meth := k0m0) (c := k0c0) (by decide +kernel) rfl rfl rfl (by decide +kernel)
set_option maxRecDepth 65536 in
theorem w_c4 : (Jvm.Cond.code ({ cls := "com/example/fetch_plan/fetchplan/Page", name := "parameters", desc := "()Ljava/util/List;" } : Jvm.MethodName) prog_6_method_4_code (1 : Nat) (Option.some (Jvm.ClassFile.FieldType.object "java/util/List"))).before args0 about1 = true := code_word (m := ⟨3, 2⟩) (meth := k3m2) (c := k3c2) (by decide +kernel) rfl rfl rfl (by decide +kernel)
set_option maxRecDepth 65536 in
theorem w_c5 : (Jvm.Cond.code ({ cls := "com/example/fetch_plan/fetchplan/Page", name := "keepsAll", desc := "()Z" } : Jvm.MethodName) prog_6_method_2_code (1 : Nat) (Option.some Jvm.ClassFile.FieldType.boolean)).before args0 about1 = true := code_word (m := ⟨3, 1⟩) (meth := k3m1) (c := k3c1) (by decide +kernel) rfl rfl rfl (by decide +kernel)
set_option maxRecDepth 65536 in
theorem w_c6 : (Jvm.Cond.code ({ cls := "java/util/List", name := "of", desc := "()Ljava/util/List;" } : Jvm.MethodName) jdk_40_method_36_code (0 : Nat) (Option.some (Jvm.ClassFile.FieldType.object "java/util/List"))).before args0 about1 = true := code_word (m := ⟨7, 2⟩) (meth := k7m2) (c := k7c2) (by decide +kernel) rfl rfl rfl (by decide +kernel)
set_option maxRecDepth 65536 in
theorem w_c7 : (Jvm.Cond.code ({ cls := "java/util/ImmutableCollections$ListN", name := "size", desc := "()I" } : Jvm.MethodName) jdk_45_method_3_code (1 : Nat) (Option.some Jvm.ClassFile.FieldType.int)).before args0 about1 = true := code_word (m := ⟨14, 0⟩) (meth := k14m0) (c := k14c0) (by decide +kernel) rfl rfl rfl (by decide +kernel)
set_option maxRecDepth 65536 in
theorem w_c8 : (Jvm.Cond.code ({ cls := "java/lang/Integer", name := "valueOf", desc := "(I)Ljava/lang/Integer;" } : Jvm.MethodName) jdk_33_method_22_code (1 : Nat) (Option.some (Jvm.ClassFile.FieldType.object "java/lang/Integer"))).before args0 about1 = true := code_word (m := ⟨19, 0⟩) (meth := k19m0) (c := k19c0) (by decide +kernel) rfl rfl rfl (by decide +kernel)
set_option maxRecDepth 65536 in
theorem w_c9 : (Jvm.Cond.code ({ cls := "java/util/List", name := "of", desc := "(Ljava/lang/Object;Ljava/lang/Object;)Ljava/util/List;" } : Jvm.MethodName) jdk_40_method_38_code (2 : Nat) (Option.some (Jvm.ClassFile.FieldType.object "java/util/List"))).before args0 about1 = true := code_word (m := ⟨7, 3⟩) (meth := k7m3) (c := k7c3) (by decide +kernel) rfl rfl rfl (by decide +kernel)
set_option maxRecDepth 65536 in
theorem w_c10 : (Jvm.Cond.code ({ cls := "java/util/ImmutableCollections$List12", name := "<init>", desc := "(Ljava/lang/Object;Ljava/lang/Object;)V" } : Jvm.MethodName) jdk_44_method_2_code (3 : Nat) (Option.none : Option Jvm.ClassFile.FieldType)).before args0 about1 = true := code_word (m := ⟨21, 0⟩) (meth := k21m0) (c := k21c0) (by decide +kernel) rfl rfl rfl (by decide +kernel)
set_option maxRecDepth 65536 in
theorem w_c11 : (Jvm.Cond.code ({ cls := "java/util/ImmutableCollections$AbstractImmutableList", name := "<init>", desc := "()V" } : Jvm.MethodName) jdk_46_method_1_code (1 : Nat) (Option.none : Option Jvm.ClassFile.FieldType)).before args0 about1 = true := code_word (m := ⟨12, 0⟩) (meth := k12m0) (c := k12c0) (by decide +kernel) rfl rfl rfl (by decide +kernel)
set_option maxRecDepth 65536 in
theorem w_c12 : (Jvm.Cond.code ({ cls := "java/util/ImmutableCollections$AbstractImmutableCollection", name := "<init>", desc := "()V" } : Jvm.MethodName) jdk_47_method_1_code (1 : Nat) (Option.none : Option Jvm.ClassFile.FieldType)).before args0 about1 = true := code_word (m := ⟨10, 0⟩) (meth := k10m0) (c := k10c0) (by decide +kernel) rfl rfl rfl (by decide +kernel)
set_option maxRecDepth 65536 in
theorem w_c13 : (Jvm.Cond.code ({ cls := "java/util/AbstractCollection", name := "<init>", desc := "()V" } : Jvm.MethodName) jdk_22_method_1_code (1 : Nat) (Option.none : Option Jvm.ClassFile.FieldType)).before args0 about1 = true := code_word (m := ⟨9, 0⟩) (meth := k9m0) (c := k9c0) (by decide +kernel) rfl rfl rfl (by decide +kernel)
set_option maxRecDepth 65536 in
theorem w_c14 : (Jvm.Cond.code ({ cls := "java/util/Objects", name := "requireNonNull", desc := "(Ljava/lang/Object;)Ljava/lang/Object;" } : Jvm.MethodName) jdk_31_method_10_code (1 : Nat) (Option.some (Jvm.ClassFile.FieldType.object "java/lang/Object"))).before args0 about1 = true := code_word (m := ⟨22, 1⟩) (meth := k22m1) (c := k22c1) (by decide +kernel) rfl rfl rfl (by decide +kernel)
set_option maxRecDepth 65536 in
theorem w_c15 : (Jvm.Cond.code ({ cls := "java/util/ImmutableCollections$List12", name := "size", desc := "()I" } : Jvm.MethodName) jdk_44_method_3_code (1 : Nat) (Option.some Jvm.ClassFile.FieldType.int)).before args0 about1 = true := code_word (m := ⟨21, 1⟩) (meth := k21m1) (c := k21c1) (by decide +kernel) rfl rfl rfl (by decide +kernel)
set_option maxRecDepth 65536 in
theorem w_c16 : (Jvm.Cond.code ({ cls := "java/util/ImmutableCollections$List12", name := "get", desc := "(I)Ljava/lang/Object;" } : Jvm.MethodName) jdk_44_method_5_code (2 : Nat) (Option.some (Jvm.ClassFile.FieldType.object "java/lang/Object"))).before args0 about1 = true := code_word (m := ⟨21, 2⟩) (meth := k21m2) (c := k21c2) (by decide +kernel) rfl rfl rfl (by decide +kernel)
set_option maxRecDepth 65536 in
theorem w_c17 : (Jvm.Cond.code ({ cls := "java/lang/Integer", name := "intValue", desc := "()I" } : Jvm.MethodName) jdk_33_method_27_code (1 : Nat) (Option.some Jvm.ClassFile.FieldType.int)).before args0 about1 = true := code_word (m := ⟨19, 2⟩) (meth := k19m2) (c := k19c2) (by decide +kernel) rfl rfl rfl (by decide +kernel)
set_option maxRecDepth 65536 in
theorem w_c18 : (Jvm.Cond.code ({ cls := "java/lang/Integer", name := "<init>", desc := "(I)V" } : Jvm.MethodName) jdk_33_method_23_code (2 : Nat) (Option.none : Option Jvm.ClassFile.FieldType)).before args0 about1 = true := code_word (m := ⟨19, 1⟩) (meth := k19m1) (c := k19c1) (by decide +kernel) rfl rfl rfl (by decide +kernel)
set_option maxRecDepth 65536 in
theorem w_c19 : (Jvm.Cond.code ({ cls := "java/lang/Number", name := "<init>", desc := "()V" } : Jvm.MethodName) jdk_18_method_1_code (1 : Nat) (Option.none : Option Jvm.ClassFile.FieldType)).before args0 about1 = true := code_word (m := ⟨15, 0⟩) (meth := k15m0) (c := k15c0) (by decide +kernel) rfl rfl rfl (by decide +kernel)
def codes1 : List Jvm.Cond := [Jvm.Cond.code x code maxLocals ret, Jvm.Cond.code ({ cls := "com/example/fetch_plan/fetchplan/Page", name := "<init>", desc := "(II)V" } : Jvm.MethodName) prog_6_method_1_code (3 : Nat) (Option.none : Option Jvm.ClassFile.FieldType), Jvm.Cond.code ({ cls := "java/lang/Record", name := "<init>", desc := "()V" } : Jvm.MethodName) jdk_30_method_1_code (1 : Nat) (Option.none : Option Jvm.ClassFile.FieldType), Jvm.Cond.code ({ cls := "java/lang/Object", name := "<init>", desc := "()V" } : Jvm.MethodName) object_method_1_code (1 : Nat) (Option.none : Option Jvm.ClassFile.FieldType), Jvm.Cond.code ({ cls := "com/example/fetch_plan/fetchplan/Page", name := "parameters", desc := "()Ljava/util/List;" } : Jvm.MethodName) prog_6_method_4_code (1 : Nat) (Option.some (Jvm.ClassFile.FieldType.object "java/util/List")), Jvm.Cond.code ({ cls := "com/example/fetch_plan/fetchplan/Page", name := "keepsAll", desc := "()Z" } : Jvm.MethodName) prog_6_method_2_code (1 : Nat) (Option.some Jvm.ClassFile.FieldType.boolean), Jvm.Cond.code ({ cls := "java/util/List", name := "of", desc := "()Ljava/util/List;" } : Jvm.MethodName) jdk_40_method_36_code (0 : Nat) (Option.some (Jvm.ClassFile.FieldType.object "java/util/List")), Jvm.Cond.code ({ cls := "java/util/ImmutableCollections$ListN", name := "size", desc := "()I" } : Jvm.MethodName) jdk_45_method_3_code (1 : Nat) (Option.some Jvm.ClassFile.FieldType.int), Jvm.Cond.code ({ cls := "java/lang/Integer", name := "valueOf", desc := "(I)Ljava/lang/Integer;" } : Jvm.MethodName) jdk_33_method_22_code (1 : Nat) (Option.some (Jvm.ClassFile.FieldType.object "java/lang/Integer")), Jvm.Cond.code ({ cls := "java/util/List", name := "of", desc := "(Ljava/lang/Object;Ljava/lang/Object;)Ljava/util/List;" } : Jvm.MethodName) jdk_40_method_38_code (2 : Nat) (Option.some (Jvm.ClassFile.FieldType.object "java/util/List")), Jvm.Cond.code ({ cls := "java/util/ImmutableCollections$List12", name := "<init>", desc := "(Ljava/lang/Object;Ljava/lang/Object;)V" } : Jvm.MethodName) jdk_44_method_2_code (3 : Nat) (Option.none : Option Jvm.ClassFile.FieldType), Jvm.Cond.code ({ cls := "java/util/ImmutableCollections$AbstractImmutableList", name := "<init>", desc := "()V" } : Jvm.MethodName) jdk_46_method_1_code (1 : Nat) (Option.none : Option Jvm.ClassFile.FieldType), Jvm.Cond.code ({ cls := "java/util/ImmutableCollections$AbstractImmutableCollection", name := "<init>", desc := "()V" } : Jvm.MethodName) jdk_47_method_1_code (1 : Nat) (Option.none : Option Jvm.ClassFile.FieldType), Jvm.Cond.code ({ cls := "java/util/AbstractCollection", name := "<init>", desc := "()V" } : Jvm.MethodName) jdk_22_method_1_code (1 : Nat) (Option.none : Option Jvm.ClassFile.FieldType), Jvm.Cond.code ({ cls := "java/util/Objects", name := "requireNonNull", desc := "(Ljava/lang/Object;)Ljava/lang/Object;" } : Jvm.MethodName) jdk_31_method_10_code (1 : Nat) (Option.some (Jvm.ClassFile.FieldType.object "java/lang/Object")), Jvm.Cond.code ({ cls := "java/util/ImmutableCollections$List12", name := "size", desc := "()I" } : Jvm.MethodName) jdk_44_method_3_code (1 : Nat) (Option.some Jvm.ClassFile.FieldType.int), Jvm.Cond.code ({ cls := "java/util/ImmutableCollections$List12", name := "get", desc := "(I)Ljava/lang/Object;" } : Jvm.MethodName) jdk_44_method_5_code (2 : Nat) (Option.some (Jvm.ClassFile.FieldType.object "java/lang/Object")), Jvm.Cond.code ({ cls := "java/lang/Integer", name := "intValue", desc := "()I" } : Jvm.MethodName) jdk_33_method_27_code (1 : Nat) (Option.some Jvm.ClassFile.FieldType.int), Jvm.Cond.code ({ cls := "java/lang/Integer", name := "<init>", desc := "(I)V" } : Jvm.MethodName) jdk_33_method_23_code (2 : Nat) (Option.none : Option Jvm.ClassFile.FieldType), Jvm.Cond.code ({ cls := "java/lang/Number", name := "<init>", desc := "()V" } : Jvm.MethodName) jdk_18_method_1_code (1 : Nat) (Option.none : Option Jvm.ClassFile.FieldType)]
set_option maxRecDepth 65536 in
theorem codes_eq : words1.filter isCode = codes1 := rfl
theorem w_codes : ∀ c ∈ words1.filter isCode, c.before args0 about1 = true := by
  rw [codes_eq]
  intro c hc
  simp only [codes1, List.mem_cons, List.not_mem_nil, or_false] at hc
  rcases hc with rfl | rfl | rfl | rfl | rfl | rfl | rfl | rfl | rfl | rfl | rfl | rfl | rfl | rfl | rfl | rfl | rfl | rfl | rfl | rfl
  · exact w_c0
  · exact w_c1
  · exact w_c2
  · exact w_c3
  · exact w_c4
  · exact w_c5
  · exact w_c6
  · exact w_c7
  · exact w_c8
  · exact w_c9
  · exact w_c10
  · exact w_c11
  · exact w_c12
  · exact w_c13
  · exact w_c14
  · exact w_c15
  · exact w_c16
  · exact w_c17
  · exact w_c18
  · exact w_c19
set_option maxRecDepth 65536 in
theorem w_t1 : (words1.take 24).all (fun c => isCode c || c.before args0 about1) = true := by decide +kernel
set_option maxRecDepth 65536 in
theorem w_t2 : ((words1.drop 24).take 24).all (fun c => isCode c || c.before args0 about1) = true := by decide +kernel
set_option maxRecDepth 65536 in
theorem w_t3 : (((words1.drop 24).drop 24).take 24).all (fun c => isCode c || c.before args0 about1) = true := by decide +kernel
set_option maxRecDepth 65536 in
theorem w_t4 : ((((words1.drop 24).drop 24).drop 24).take 24).all (fun c => isCode c || c.before args0 about1) = true := by decide +kernel
set_option maxRecDepth 65536 in
theorem w_t5 : (((((words1.drop 24).drop 24).drop 24).drop 24).take 24).all (fun c => isCode c || c.before args0 about1) = true := by decide +kernel
set_option maxRecDepth 65536 in
theorem w_t6 : (((((words1.drop 24).drop 24).drop 24).drop 24).drop 24).all (fun c => isCode c || c.before args0 about1) = true := by decide +kernel
theorem w_tables : (allAtoms (Jvm.Cond.code x code maxLocals ret :: tables_1)).before args0 about1 = true := by
  rw [allAtoms_all]
  show words1.all (fun c => c.before args0 about1) = true
  refine all_split ?_ w_codes
  rw [← List.take_append_drop 24 words1, List.all_append, w_t1, ← List.take_append_drop 24 (words1.drop 24), List.all_append, w_t2, ← List.take_append_drop 24 ((words1.drop 24).drop 24), List.all_append, w_t3, ← List.take_append_drop 24 (((words1.drop 24).drop 24).drop 24), List.all_append, w_t4, ← List.take_append_drop 24 ((((words1.drop 24).drop 24).drop 24).drop 24), List.all_append, w_t5, w_t6]
  rfl
set_option maxRecDepth 65536 in
theorem w_rest : rest_1_c.before args0 about1 = true := by decide +kernel
set_option maxRecDepth 65536 in
theorem w_case : (Jvm.Cond.and given_1 narrow_1).before args0 about1 = true := by decide +kernel
theorem w_applies : (headSpec (Jvm.Cond.code x code maxLocals ret :: tables_1) room_1).applies x e0.platform about1 = true :=
  (Spec.applies_iff w_frames).mpr ⟨w_running, w_runnable, w_alone, w_named, w_hears, w_ripe, w_room, w_tables⟩
theorem atStart : AtStart classFile x code maxLocals ret World_1 tables_1 room_1 Calls_1 rest_1 Pre_1 launch0 p0 e0 about1 theMethod args0 below0 :=
  ⟨lists_1, trivial, launch0.admits_env _ _ _, launch0.least_env, fairChoices_fair.cas, fairChoices_fair.clock, w_frames, w_args, w_heap, w_applies, trivial, w_rest, w_case⟩
end start1
theorem witness_1 : WitnessClaimed_1 := ⟨start1.p0, start1.e0, start1.about1, start1.theMethod, start1.args0, start1.below0, start1.atStart⟩
end Jvm.Pilot.@@N@@
