import JvmDerived
import JvmDerived.Pilot.@@N@@Statement
import JvmDerived.Pilot.@@N@@Code
set_option linter.unusedVariables false
set_option linter.unusedSimpArgs false
namespace Jvm.RoadKit
open Sem ClassFile Op Lib Jvm.Stand Jvm.Free Jvm.LawKit
section New
variable {p : Program} {l : Launch} {e : Env} {R : Room} {s : State} {m : MethodId} {args : Array Value} {below : List Frame} {meth : Method} {c : Code} {T : State} {locs : List Loc} {cells slots : Nat}
theorem retI (X : Stand p l e R s m args below meth c T locs cells slots) (hx : p.tables.exec = Jvm.exec) {pc : Nat} {Ls : Array Slot} {z : Int32} {rest : List Value} (hret : meth.sig.returnType = some .int) (hd : decode c.code pc = .ok (.ireturn, 1)) {fs : List Frame}
    (hl : ∀ (f : JFrame) (acts : List Action), f.method = m → f.locked = none → f.entered = [] → (doReturn e (T.setTop f) acts (some (.int z))).1 = T.setFrames fs) : Steps p.tables e below (T.setTop (mkF m pc Ls (.int z :: rest))) (T.setFrames fs) := by
  have hm' : T.vm.method? m = some meth := X.method'
  have hn : narrow .int (.int z) = .int z := rfl
  show Steps p.tables e below (T.setTop { method := m, pc := pc, locals := Ls, stack := _ :: rest, locked := none }) _
  jvm_step X.here [X.here.top, hx, hd, hm', hret, hn]
  first | (intro acts; rw [hl _ acts rfl rfl rfl]) | rw [hl _ _ rfl rfl rfl]
  exact Steps.refl _
end New
end Jvm.RoadKit
namespace Jvm.Pilot.@@N@@
open Jvm Jvm.ClassFile Sem Op Lib Jvm.Free Jvm.Stand Jvm.LawKit Jvm.RoadKit Bundle Jvm.Pilot.@@N@@.Jvm.D
theorem own_pn16 : plainName "java/lang/Record" = true := by first | (simp [plainName, overriddenIn]; done) | decide +kernel
theorem own_pd20 : parseMethodDescriptor "()V" = some ⟨[], none⟩ := by decide +kernel
theorem own_pn21 : plainName "com/example/edgbaston/edgbaston/model/Interval" = true := by first | (simp [plainName, overriddenIn]; done) | decide +kernel
theorem own_pd49 : parseMethodDescriptor "(II)I" = some ⟨[.int, .int], some .int⟩ := by decide +kernel
theorem own_pd52 : parseMethodDescriptor "(DD)V" = some ⟨[.double, .double], none⟩ := by decide +kernel
theorem own_pd53 : parseMethodDescriptor "()Z" = some ⟨[], some .boolean⟩ := by decide +kernel
theorem own_pn54 : plainName "com/example/edgbaston/edgbaston/model/IntervalCanBeFalsePinLaw" = true := by first | (simp [plainName, overriddenIn]; done) | decide +kernel
theorem own_nan_ddiv (x : Int64) : Jvm.Free.Fl.NoNaN64 (FP.ddiv (FP.l2d x) (4611686018427387904 : UInt64)) := Jvm.Free.Fl.ddiv_out (Jvm.Free.Fl.l2d_fin x).noNaN (by unfold Jvm.Free.Fl.Fin64; decide) (by unfold Jvm.Free.Fl.Nz64; decide)
theorem own_nan_dsub (x : Int64) : Jvm.Free.Fl.NoNaN64 (FP.dsub FP.dconst1 (FP.l2d x)) := Jvm.Free.Fl.dsub_out (by unfold Jvm.Free.Fl.NoNaN64; decide +kernel) (Jvm.Free.Fl.l2d_fin x)
-- body 1
theorem own_d1_0 : decode jdk_29_method_69_code 0 = .ok (.iload_n 0, 1) := by decide +kernel
theorem own_d1_1 : decode jdk_29_method_69_code 1 = .ok (.iload_n 1, 1) := by decide +kernel
theorem own_d1_2 : decode jdk_29_method_69_code 2 = .ok (.if_icmp .gt 7, 3) := by decide +kernel
theorem own_d1_5 : decode jdk_29_method_69_code 5 = .ok (.iload_n 0, 1) := by decide +kernel
theorem own_d1_6 : decode jdk_29_method_69_code 6 = .ok (.goto 4, 3) := by decide +kernel
theorem own_d1_9 : decode jdk_29_method_69_code 9 = .ok (.iload_n 1, 1) := by decide +kernel
theorem own_d1_10 : decode jdk_29_method_69_code 10 = .ok (.ireturn, 1) := by decide +kernel
theorem own_ef1 (m : MethodId) (x0 : Int32) (x1 : Int32) : entryFrame m #[(.int x0), (.int x1)] 2 = mkF m 0 #[.val (.int x0), .val (.int x1)] [] := by first | (simp [entryFrame, mkF, argsToLocals, Value.category]; done) | rfl
def own_f1 (p1 : Int32) (p2 : Int32) : Int32 := if p2 < p1 then p2
    else p1
def own_Q1 (Z : State) (p1 : Int32) (p2 : Int32) (h0 : Heap) (n0 : Nat) (v : Option Value) (h : Heap) (L : List Loc) : Prop := v = some (.int (own_f1 p1 p2)) ∧ Fr n0 L ∧ h = h0
set_option maxRecDepth 65536 in
set_option maxHeartbeats 40000000 in
theorem own_rm1 (l : Launch) (Z : State) (a0 : Array Value) (hw : ∀ d ∈ tables_1, d.before a0 Z = true) (ws : List Jvm.Cond) (p1 : Int32) (p2 : Int32) (h0 : Heap) (n0 : Nat) (Z0 : n0 ≤ h0.size) :
    MetFree l (⟨"java/lang/Math", "min", "(II)I"⟩ : MethodName) (head1 (Jvm.Cond.code (⟨"java/lang/Math", "min", "(II)I"⟩ : MethodName) jdk_29_method_69_code 2 (some .int) :: ws) ({ frames := 0, cells := 0, slots := 0, locals := 0 } : Room)) (fun a U => a = #[(.int p1), (.int p2)] ∧ Z.Warmed39 U.vm ∧ U.heap = h0) (fun _ _ _ _ _ => True) (fun _ U o U' => ∃ v L, o = .returned v ∧ own_Q1 Z p1 p2 h0 n0 v U'.heap L ∧ FrameEnd U o U' L ({ frames := 0, cells := 0, slots := 0, locals := 0 } : Room).cells ({ frames := 0, cells := 0, slots := 0, locals := 0 } : Room).slots) := by
  refine MetFree.of_bodySF (Jvm.Free.JP.mathPlain rfl (by decide +kernel)) hisR ?_
  intro p e s m args below meth c s₁ Bd hml0 hP hK
  obtain ⟨rfl, hZ, hh⟩ := hP
  have hx := Bd.exec
  have hby := Bd.bytes
  have hml : c.maxLocals = 2 := hml0
  have hown : s.vm.findClass "java/lang/Math" = some m.cls := findClass_of_methodNamed Bd.named
  have hnm := (name_of_methodNamed Bd.named Bd.method).1
  have X0 : Stand p l e ({ frames := 0, cells := 0, slots := 0, locals := 0 } : Room) s m #[(.int p1), (.int p2)] below meth c s₁ [] 0 0 := Stand.of_body Bd
  have hS0 : s.Since s.vm 0 := (State.WarmedH.refl s).since 0
  have hk0 : 0 ≤ h0.size := Nat.zero_le _
  have hlk := Bd.notSynchronized
  have e0 : s₁.heap = h0 := by rw [← hh, Bd.state]; rfl
  have N0 := Fr.nil n0
  have pre0 : ∀ t, Steps p.tables e below (s₁.setTop (mkF m 0 #[.val (.int p1), .val (.int p2)] [])) t → Steps p.tables e below (s₁.setTop (entryFrame m #[(.int p1), (.int p2)] 2)) t := fun t k => castTop (own_ef1 m p1 p2) k
  have k1 : ∀ t, Steps p.tables e below (s₁.setTop (mkF m 2 #[.val (.int p1), .val (.int p2)] [(.int p2), (.int p1)])) t → Steps p.tables e below (s₁.setTop (entryFrame m #[(.int p1), (.int p2)] 2)) t := by
    intro t kt
    refine pre0 t ?_
    show Steps p.tables e below (s₁.setTop (mkF m 0 #[.val (.int p1), .val (.int p2)] [])) _
    refine XS.iloadN X0.here hx rfl (hb hby own_d1_0) rfl ?_
    show Steps p.tables e below (s₁.setTop (mkF m 1 #[.val (.int p1), .val (.int p2)] [(.int p1)])) _
    refine XS.iloadN X0.here hx rfl (hb hby own_d1_1) rfl ?_
    exact kt
  by_cases hc1 : p2 < p1
  ·
    obtain ⟨fs, hr, hrun, hended, hW, hsame⟩ := X0.leave (hlocks := hlk) (v := some (.int p2)) (fun h => by rw [Bd.returns] at h; cases h)
    refine ⟨_, _, k1 _ ?_, hrun, hended, _, _, rfl, ?_, ⟨_, rfl⟩, hW, hsame.mono (by decide) (by decide)⟩
    · show Steps p.tables e below (s₁.setTop (mkF m 2 #[.val (.int p1), .val (.int p2)] [(.int p2), (.int p1)])) _
      refine XS.icmpYes X0.here hx rfl (pc0 := 2) (pc' := 9) rfl (hb hby own_d1_2) rfl (tlt hc1).2.2.1 (by decide) (by decide) ?_
      show Steps p.tables e below (s₁.setTop (mkF m 9 #[.val (.int p1), .val (.int p2)] [])) _
      refine XS.iloadN X0.here hx rfl (hb hby own_d1_9) rfl ?_
      show Steps p.tables e below (s₁.setTop (mkF m 10 #[.val (.int p1), .val (.int p2)] [(.int p2)])) _
      exact retI X0 hx Bd.returns (hb hby own_d1_10) hr
    · show own_Q1 Z p1 p2 h0 n0 _ s₁.heap _
      rw [e0]
      exact ⟨(by rw [own_f1, if_pos hc1]), N0, rfl⟩
  ·
    obtain ⟨fs, hr, hrun, hended, hW, hsame⟩ := X0.leave (hlocks := hlk) (v := some (.int p1)) (fun h => by rw [Bd.returns] at h; cases h)
    refine ⟨_, _, k1 _ ?_, hrun, hended, _, _, rfl, ?_, ⟨_, rfl⟩, hW, hsame.mono (by decide) (by decide)⟩
    · show Steps p.tables e below (s₁.setTop (mkF m 2 #[.val (.int p1), .val (.int p2)] [(.int p2), (.int p1)])) _
      refine XS.icmpNo X0.here hx rfl (hb hby own_d1_2) rfl (flt hc1).2.2.1 ?_
      show Steps p.tables e below (s₁.setTop (mkF m 5 #[.val (.int p1), .val (.int p2)] [])) _
      refine XS.iloadN X0.here hx rfl (hb hby own_d1_5) rfl ?_
      show Steps p.tables e below (s₁.setTop (mkF m 6 #[.val (.int p1), .val (.int p2)] [(.int p1)])) _
      refine XS.goto X0.here hx rfl (pc0 := 6) (pc' := 10) rfl (hb hby own_d1_6) (by decide) (by decide) ?_
      show Steps p.tables e below (s₁.setTop (mkF m 10 #[.val (.int p1), .val (.int p2)] [(.int p1)])) _
      exact retI X0 hx Bd.returns (hb hby own_d1_10) hr
    · show own_Q1 Z p1 p2 h0 n0 _ s₁.heap _
      rw [e0]
      exact ⟨(by rw [own_f1, if_neg hc1]), N0, rfl⟩
-- body 2
theorem own_d2_0 : decode jdk_29_method_65_code 0 = .ok (.iload_n 0, 1) := by decide +kernel
theorem own_d2_1 : decode jdk_29_method_65_code 1 = .ok (.iload_n 1, 1) := by decide +kernel
theorem own_d2_2 : decode jdk_29_method_65_code 2 = .ok (.if_icmp .lt 7, 3) := by decide +kernel
theorem own_d2_5 : decode jdk_29_method_65_code 5 = .ok (.iload_n 0, 1) := by decide +kernel
theorem own_d2_6 : decode jdk_29_method_65_code 6 = .ok (.goto 4, 3) := by decide +kernel
theorem own_d2_9 : decode jdk_29_method_65_code 9 = .ok (.iload_n 1, 1) := by decide +kernel
theorem own_d2_10 : decode jdk_29_method_65_code 10 = .ok (.ireturn, 1) := by decide +kernel
theorem own_ef2 (m : MethodId) (x0 : Int32) (x1 : Int32) : entryFrame m #[(.int x0), (.int x1)] 2 = mkF m 0 #[.val (.int x0), .val (.int x1)] [] := by first | (simp [entryFrame, mkF, argsToLocals, Value.category]; done) | rfl
def own_f2 (p1 : Int32) (p2 : Int32) : Int32 := if p1 < p2 then p2
    else p1
def own_Q2 (Z : State) (p1 : Int32) (p2 : Int32) (h0 : Heap) (n0 : Nat) (v : Option Value) (h : Heap) (L : List Loc) : Prop := v = some (.int (own_f2 p1 p2)) ∧ Fr n0 L ∧ h = h0
set_option maxRecDepth 65536 in
set_option maxHeartbeats 40000000 in
theorem own_rm2 (l : Launch) (Z : State) (a0 : Array Value) (hw : ∀ d ∈ tables_1, d.before a0 Z = true) (ws : List Jvm.Cond) (p1 : Int32) (p2 : Int32) (h0 : Heap) (n0 : Nat) (Z0 : n0 ≤ h0.size) :
    MetFree l (⟨"java/lang/Math", "max", "(II)I"⟩ : MethodName) (head1 (Jvm.Cond.code (⟨"java/lang/Math", "max", "(II)I"⟩ : MethodName) jdk_29_method_65_code 2 (some .int) :: ws) ({ frames := 0, cells := 0, slots := 0, locals := 0 } : Room)) (fun a U => a = #[(.int p1), (.int p2)] ∧ Z.Warmed39 U.vm ∧ U.heap = h0) (fun _ _ _ _ _ => True) (fun _ U o U' => ∃ v L, o = .returned v ∧ own_Q2 Z p1 p2 h0 n0 v U'.heap L ∧ FrameEnd U o U' L ({ frames := 0, cells := 0, slots := 0, locals := 0 } : Room).cells ({ frames := 0, cells := 0, slots := 0, locals := 0 } : Room).slots) := by
  refine MetFree.of_bodySF (Jvm.Free.JP.mathPlain rfl (by decide +kernel)) hisR ?_
  intro p e s m args below meth c s₁ Bd hml0 hP hK
  obtain ⟨rfl, hZ, hh⟩ := hP
  have hx := Bd.exec
  have hby := Bd.bytes
  have hml : c.maxLocals = 2 := hml0
  have hown : s.vm.findClass "java/lang/Math" = some m.cls := findClass_of_methodNamed Bd.named
  have hnm := (name_of_methodNamed Bd.named Bd.method).1
  have X0 : Stand p l e ({ frames := 0, cells := 0, slots := 0, locals := 0 } : Room) s m #[(.int p1), (.int p2)] below meth c s₁ [] 0 0 := Stand.of_body Bd
  have hS0 : s.Since s.vm 0 := (State.WarmedH.refl s).since 0
  have hk0 : 0 ≤ h0.size := Nat.zero_le _
  have hlk := Bd.notSynchronized
  have e0 : s₁.heap = h0 := by rw [← hh, Bd.state]; rfl
  have N0 := Fr.nil n0
  have pre0 : ∀ t, Steps p.tables e below (s₁.setTop (mkF m 0 #[.val (.int p1), .val (.int p2)] [])) t → Steps p.tables e below (s₁.setTop (entryFrame m #[(.int p1), (.int p2)] 2)) t := fun t k => castTop (own_ef2 m p1 p2) k
  have k1 : ∀ t, Steps p.tables e below (s₁.setTop (mkF m 2 #[.val (.int p1), .val (.int p2)] [(.int p2), (.int p1)])) t → Steps p.tables e below (s₁.setTop (entryFrame m #[(.int p1), (.int p2)] 2)) t := by
    intro t kt
    refine pre0 t ?_
    show Steps p.tables e below (s₁.setTop (mkF m 0 #[.val (.int p1), .val (.int p2)] [])) _
    refine XS.iloadN X0.here hx rfl (hb hby own_d2_0) rfl ?_
    show Steps p.tables e below (s₁.setTop (mkF m 1 #[.val (.int p1), .val (.int p2)] [(.int p1)])) _
    refine XS.iloadN X0.here hx rfl (hb hby own_d2_1) rfl ?_
    exact kt
  by_cases hc1 : p1 < p2
  ·
    obtain ⟨fs, hr, hrun, hended, hW, hsame⟩ := X0.leave (hlocks := hlk) (v := some (.int p2)) (fun h => by rw [Bd.returns] at h; cases h)
    refine ⟨_, _, k1 _ ?_, hrun, hended, _, _, rfl, ?_, ⟨_, rfl⟩, hW, hsame.mono (by decide) (by decide)⟩
    · show Steps p.tables e below (s₁.setTop (mkF m 2 #[.val (.int p1), .val (.int p2)] [(.int p2), (.int p1)])) _
      refine XS.icmpYes X0.here hx rfl (pc0 := 2) (pc' := 9) rfl (hb hby own_d2_2) rfl (tlt hc1).1 (by decide) (by decide) ?_
      show Steps p.tables e below (s₁.setTop (mkF m 9 #[.val (.int p1), .val (.int p2)] [])) _
      refine XS.iloadN X0.here hx rfl (hb hby own_d2_9) rfl ?_
      show Steps p.tables e below (s₁.setTop (mkF m 10 #[.val (.int p1), .val (.int p2)] [(.int p2)])) _
      exact retI X0 hx Bd.returns (hb hby own_d2_10) hr
    · show own_Q2 Z p1 p2 h0 n0 _ s₁.heap _
      rw [e0]
      exact ⟨(by rw [own_f2, if_pos hc1]), N0, rfl⟩
  ·
    obtain ⟨fs, hr, hrun, hended, hW, hsame⟩ := X0.leave (hlocks := hlk) (v := some (.int p1)) (fun h => by rw [Bd.returns] at h; cases h)
    refine ⟨_, _, k1 _ ?_, hrun, hended, _, _, rfl, ?_, ⟨_, rfl⟩, hW, hsame.mono (by decide) (by decide)⟩
    · show Steps p.tables e below (s₁.setTop (mkF m 2 #[.val (.int p1), .val (.int p2)] [(.int p2), (.int p1)])) _
      refine XS.icmpNo X0.here hx rfl (hb hby own_d2_2) rfl (flt hc1).1 ?_
      show Steps p.tables e below (s₁.setTop (mkF m 5 #[.val (.int p1), .val (.int p2)] [])) _
      refine XS.iloadN X0.here hx rfl (hb hby own_d2_5) rfl ?_
      show Steps p.tables e below (s₁.setTop (mkF m 6 #[.val (.int p1), .val (.int p2)] [(.int p1)])) _
      refine XS.goto X0.here hx rfl (pc0 := 6) (pc' := 10) rfl (hb hby own_d2_6) (by decide) (by decide) ?_
      show Steps p.tables e below (s₁.setTop (mkF m 10 #[.val (.int p1), .val (.int p2)] [(.int p1)])) _
      exact retI X0 hx Bd.returns (hb hby own_d2_10) hr
    · show own_Q2 Z p1 p2 h0 n0 _ s₁.heap _
      rw [e0]
      exact ⟨(by rw [own_f2, if_neg hc1]), N0, rfl⟩
-- body 4
theorem own_d4_0 : decode jdk_30_method_1_code 0 = .ok (.aload_n 0, 1) := by decide +kernel
theorem own_d4_1 : decode jdk_30_method_1_code 1 = .ok (.invokespecial 1, 3) := by decide +kernel
theorem own_d4_4 : decode jdk_30_method_1_code 4 = .ok (.return_, 1) := by decide +kernel
theorem own_ef4 (m : MethodId) (x0 : Addr) : entryFrame m #[(.ref x0)] 1 = mkF m 0 #[.val (.ref x0)] [] := by first | (simp [entryFrame, mkF, argsToLocals, Value.category]; done) | rfl
def own_Q4 (Z : State) (a1 : Addr) (h0 : Heap) (n0 : Nat) (v : Option Value) (h : Heap) (L : List Loc) : Prop := v = none ∧ Fr n0 L ∧ h = h0
set_option maxRecDepth 65536 in
set_option maxHeartbeats 40000000 in
theorem own_rm4 (l : Launch) (Z : State) (a0 : Array Value) (hw : ∀ d ∈ tables_1, d.before a0 Z = true) (ws : List Jvm.Cond) (a1 : Addr) (h0 : Heap) (n0 : Nat) (Z0 : n0 ≤ h0.size) :
    MetFree l (⟨"java/lang/Record", "<init>", "()V"⟩ : MethodName) (head1 (Jvm.Cond.code (⟨"java/lang/Record", "<init>", "()V"⟩ : MethodName) jdk_30_method_1_code 1 none :: ws) ({ frames := 1, cells := 0, slots := 0, locals := 12 } : Room)) (fun a U => a = #[(.ref a1)] ∧ Z.Warmed39 U.vm ∧ U.heap = h0) (fun _ _ _ _ _ => True) (fun _ U o U' => ∃ v L, o = .returned v ∧ own_Q4 Z a1 h0 n0 v U'.heap L ∧ FrameEnd U o U' L ({ frames := 1, cells := 0, slots := 0, locals := 12 } : Room).cells ({ frames := 1, cells := 0, slots := 0, locals := 12 } : Room).slots) := by
  refine MetFree.of_bodySF (plainFor_of_name own_pn16) hisR ?_
  intro p e s m args below meth c s₁ Bd hml0 hP hK
  obtain ⟨rfl, hZ, hh⟩ := hP
  have hx := Bd.exec
  have hby := Bd.bytes
  have hml : c.maxLocals = 1 := hml0
  have hown : s.vm.findClass "java/lang/Record" = some m.cls := findClass_of_methodNamed Bd.named
  have hnm := (name_of_methodNamed Bd.named Bd.method).1
  have X0 : Stand p l e ({ frames := 1, cells := 0, slots := 0, locals := 12 } : Room) s m #[(.ref a1)] below meth c s₁ [] 0 0 := Stand.of_body Bd
  have hS0 : s.Since s.vm 0 := (State.WarmedH.refl s).since 0
  have hk0 : 0 ≤ h0.size := Nat.zero_le _
  have hlk := Bd.notSynchronized
  have e0 : s₁.heap = h0 := by rw [← hh, Bd.state]; rfl
  have N0 := Fr.nil n0
  have pre0 : ∀ t, Steps p.tables e below (s₁.setTop (mkF m 0 #[.val (.ref a1)] [])) t → Steps p.tables e below (s₁.setTop (entryFrame m #[(.ref a1)] 1)) t := fun t k => castTop (own_ef4 m a1) k
  obtain ⟨T1, X1, e1, st1⟩ := initO X0 hx hZ hown (hw _ (List.mem_of_getElem? (i := 18) rfl)) (hw _ (List.mem_of_getElem? (i := 19) rfl)) (hw _ (List.mem_of_getElem? (i := 20) rfl)) e0 (g := (mkF m 1 #[.val (.ref a1)] [(.ref a1)])) rfl (by rw [hml]; rfl) rfl (hb hby own_d4_1) (by decide) (W := 0) (by show 2 * 0 + _ ≤ _; exact Nat.le_of_eq rfl) (by decide)
  obtain ⟨fs, hr, hrun, hended, hW, hsame⟩ := X1.leave (hlocks := hlk) (v := none) (fun _ => rfl)
  refine ⟨_, _, pre0 _ ?_, hrun, hended, _, _, rfl, ?_, ⟨_, rfl⟩, hW, hsame.mono (by decide) (by decide)⟩
  · show Steps p.tables e below (s₁.setTop (mkF m 0 #[.val (.ref a1)] [])) _
    refine XS.aloadN X0.here hx rfl (hb hby own_d4_0) rfl rfl ?_
    show Steps p.tables e below (s₁.setTop (mkF m 1 #[.val (.ref a1)] [(.ref a1)])) _
    refine st1 _ ?_
    show Steps p.tables e below (T1.setTop (mkF m 4 #[.val (.ref a1)] [])) _
    exact X1.returnOut hx Bd.returns (hb hby own_d4_4) hr
  · show own_Q4 Z a1 h0 n0 _ T1.heap _
    rw [e1]
    exact ⟨rfl, N0, rfl⟩
-- body 3
theorem own_d3_0 : decode prog_23_method_1_code 0 = .ok (.aload_n 0, 1) := by decide +kernel
theorem own_d3_1 : decode prog_23_method_1_code 1 = .ok (.invokespecial 1, 3) := by decide +kernel
theorem own_d3_4 : decode prog_23_method_1_code 4 = .ok (.aload_n 0, 1) := by decide +kernel
theorem own_d3_5 : decode prog_23_method_1_code 5 = .ok (.dload_n 1, 1) := by decide +kernel
theorem own_d3_6 : decode prog_23_method_1_code 6 = .ok (.putfield 7, 3) := by decide +kernel
theorem own_d3_9 : decode prog_23_method_1_code 9 = .ok (.aload_n 0, 1) := by decide +kernel
theorem own_d3_10 : decode prog_23_method_1_code 10 = .ok (.dload_n 3, 1) := by decide +kernel
theorem own_d3_11 : decode prog_23_method_1_code 11 = .ok (.putfield 13, 3) := by decide +kernel
theorem own_d3_14 : decode prog_23_method_1_code 14 = .ok (.return_, 1) := by decide +kernel
theorem own_ef3 (m : MethodId) (x0 : Addr) (x1 : UInt64) (x2 : UInt64) : entryFrame m #[(.ref x0), (.double x1), (.double x2)] 5 = mkF m 0 #[.val (.ref x0), .val (.double x1), .second, .val (.double x2), .second] [] := by first | (simp [entryFrame, mkF, argsToLocals, Value.category]; done) | rfl
def own_Q3 (Z : State) (a1 : Addr) (c2 : UInt64) (c3 : UInt64) (w_low_a1 : UInt64) (w_high_a1 : UInt64) (h0 : Heap) (n0 : Nat) (v : Option Value) (h : Heap) (L : List Loc) : Prop := v = none ∧ Fr n0 L ∧ Keep h0 h [a1] ∧ Exa Z h a1 "com/example/edgbaston/edgbaston/model/Interval" ∧ Fld Z h a1 "com/example/edgbaston/edgbaston/model/Interval" "low" "D" (.double c2) ∧ Fld Z h a1 "com/example/edgbaston/edgbaston/model/Interval" "high" "D" (.double c3)
set_option maxRecDepth 65536 in
set_option maxHeartbeats 40000000 in
theorem own_rm3 (l : Launch) (Z : State) (a0 : Array Value) (hw : ∀ d ∈ tables_1, d.before a0 Z = true) (ws : List Jvm.Cond) (a1 : Addr) (c2 : UInt64) (c3 : UInt64) (w_low_a1 : UInt64) (w_high_a1 : UInt64) (h0 : Heap) (n0 : Nat) (Z0 : n0 ≤ h0.size) (E_a1 : Exa Z h0 a1 "com/example/edgbaston/edgbaston/model/Interval") (F_low_a1 : Fld Z h0 a1 "com/example/edgbaston/edgbaston/model/Interval" "low" "D" (.double w_low_a1)) (g_a1 : n0 ≤ a1) (F_high_a1 : Fld Z h0 a1 "com/example/edgbaston/edgbaston/model/Interval" "high" "D" (.double w_high_a1)) :
    MetFree l (⟨"com/example/edgbaston/edgbaston/model/Interval", "<init>", "(DD)V"⟩ : MethodName) (head1 (Jvm.Cond.code (⟨"com/example/edgbaston/edgbaston/model/Interval", "<init>", "(DD)V"⟩ : MethodName) prog_23_method_1_code 5 none :: ws) ({ frames := 2, cells := 0, slots := 0, locals := 24 } : Room)) (fun a U => a = #[(.ref a1), (.double c2), (.double c3)] ∧ Z.Warmed39 U.vm ∧ U.heap = h0) (fun _ _ _ _ _ => True) (fun _ U o U' => ∃ v L, o = .returned v ∧ own_Q3 Z a1 c2 c3 w_low_a1 w_high_a1 h0 n0 v U'.heap L ∧ FrameEnd U o U' L ({ frames := 2, cells := 0, slots := 0, locals := 24 } : Room).cells ({ frames := 2, cells := 0, slots := 0, locals := 24 } : Room).slots) := by
  refine MetFree.of_bodySF (plainFor_of_name own_pn21) hisR ?_
  intro p e s m args below meth c s₁ Bd hml0 hP hK
  obtain ⟨rfl, hZ, hh⟩ := hP
  have hx := Bd.exec
  have hby := Bd.bytes
  have hml : c.maxLocals = 5 := hml0
  have hown : s.vm.findClass "com/example/edgbaston/edgbaston/model/Interval" = some m.cls := findClass_of_methodNamed Bd.named
  have hnm := (name_of_methodNamed Bd.named Bd.method).1
  have X0 : Stand p l e ({ frames := 2, cells := 0, slots := 0, locals := 24 } : Room) s m #[(.ref a1), (.double c2), (.double c3)] below meth c s₁ [] 0 0 := Stand.of_body Bd
  have hS0 : s.Since s.vm 0 := (State.WarmedH.refl s).since 0
  have hk0 : 0 ≤ h0.size := Nat.zero_le _
  have hlk := Bd.notSynchronized
  have e0 : s₁.heap = h0 := by rw [← hh, Bd.state]; rfl
  have N0 := Fr.nil n0
  have pre0 : ∀ t, Steps p.tables e below (s₁.setTop (mkF m 0 #[.val (.ref a1), .val (.double c2), .second, .val (.double c3), .second] [])) t → Steps p.tables e below (s₁.setTop (entryFrame m #[(.ref a1), (.double c2), (.double c3)] 5)) t := fun t k => castTop (own_ef3 m a1 c2 c3) k
  obtain ⟨v1, _, ⟨T1, L1, k1, n1⟩, -, X1, ⟨Lc1, hQ1, l1, y1, z1⟩, st1⟩ := X0.specialBack hx (y := (⟨"java/lang/Record", "<init>", "()V"⟩ : MethodName)) rfl hown (mvT hZ (hw _ (List.mem_of_getElem? (i := 13) rfl))) (mvT hZ (hw _ (List.mem_of_getElem? (i := 14) rfl))) (mvT hZ (hw _ (List.mem_of_getElem? (i := 17) rfl))) (by decide) (backOf (W := 0) (own_rm4 l Z a0 hw [] a1 h0 n0 Z0) hZ (hw _ (List.mem_of_getElem? (i := 17) rfl)) (hw _ (List.mem_of_getElem? (i := 16) rfl)) (by decide) (by decide)) (g := (mkF m 1 #[.val (.ref a1), .val (.double c2), .second, .val (.double c3), .second] [(.ref a1)])) rfl (by rw [hml]; rfl) (Steps.refl _) (a := a1) (argsL := []) (rest := []) (lenOf own_pd20 rfl) rfl (by show 2 * 0 + _ ≤ _; exact Nat.le_of_eq rfl) (hb hby own_d3_1) (fun _ _ => ⟨rfl, e0, (by decide : 0 + 0 ≤ _), (by decide : 0 + 0 ≤ _)⟩)
  dsimp only [Pt.U, Pt.locs, Pt.cells, Pt.slots] at X1 l1 y1 z1 st1 hQ1
  subst l1 y1 z1
  obtain ⟨rfl, N1q, e1⟩ := hQ1
  have N2 := Fr.app N0 N1q
  obtain ⟨T3, h3, X3, e3, W3, st3⟩ := putF X1 hx hZ hown (host := "") (Or.inl (hw _ (List.mem_of_getElem? (i := 21) rfl))) Via.refl e1 F_low_a1 E_a1 (Or.inr ⟨(hw _ (List.mem_of_getElem? (i := 22) rfl)), rfl, hnm⟩) (hw _ (List.mem_of_getElem? (i := 8) rfl)) (ty := .double) (by decide) rfl rfl (g := (mkF m 6 #[.val (.ref a1), .val (.double c2), .second, .val (.double c3), .second] [(.double c2), (.ref a1)])) rfl rfl (hb hby own_d3_6)
  have N4 := Fr.snoc X3 N2 g_a1
  have Z5 := Nat.le_trans Z0 (Keep.of_wr W3).1
  have K6 : Keep h0 h3 [a1] := (Keep.refl h0 _).wr W3 (Or.inl (List.mem_of_getElem? (i := 0) rfl))
  have f7 := E_a1.wr W3
  have f8 := F_low_a1.same W3
  have f9 := F_high_a1.other W3 (Or.inr (slot_ne (Or.inr (hw _ (List.mem_of_getElem? (i := 24) rfl))) (Or.inr (hw _ (List.mem_of_getElem? (i := 22) rfl))) (by decide) (t := .double) (t' := .double) (by decide) (by decide)))
  obtain ⟨T10, h10, X10, e10, W10, st10⟩ := putF X3 hx hZ hown (host := "") (Or.inl (hw _ (List.mem_of_getElem? (i := 23) rfl))) Via.refl e3 f9 f7 (Or.inr ⟨(hw _ (List.mem_of_getElem? (i := 24) rfl)), rfl, hnm⟩) (hw _ (List.mem_of_getElem? (i := 8) rfl)) (ty := .double) (by decide) rfl rfl (g := (mkF m 11 #[.val (.ref a1), .val (.double c2), .second, .val (.double c3), .second] [(.double c3), (.ref a1)])) rfl rfl (hb hby own_d3_11)
  have N11 := Fr.snoc X10 N4 g_a1
  have Z12 := Nat.le_trans Z5 (Keep.of_wr W10).1
  have K13 : Keep h0 h10 [a1] := K6.wr W10 (Or.inl (List.mem_of_getElem? (i := 0) rfl))
  have f14 := f7.wr W10
  have f15 := f8.other W10 (Or.inr (slot_ne (Or.inr (hw _ (List.mem_of_getElem? (i := 22) rfl))) (Or.inr (hw _ (List.mem_of_getElem? (i := 24) rfl))) (by decide) (t := .double) (t' := .double) (by decide) (by decide)))
  have f16 := f9.same W10
  obtain ⟨fs, hr, hrun, hended, hW, hsame⟩ := X10.leave (hlocks := hlk) (v := none) (fun _ => rfl)
  refine ⟨_, _, pre0 _ ?_, hrun, hended, _, _, rfl, ?_, ⟨_, rfl⟩, hW, hsame.mono (by decide) (by decide)⟩
  · show Steps p.tables e below (s₁.setTop (mkF m 0 #[.val (.ref a1), .val (.double c2), .second, .val (.double c3), .second] [])) _
    refine XS.aloadN X0.here hx rfl (hb hby own_d3_0) rfl rfl ?_
    show Steps p.tables e below (s₁.setTop (mkF m 1 #[.val (.ref a1), .val (.double c2), .second, .val (.double c3), .second] [(.ref a1)])) _
    refine st1.trans ?_
    show Steps p.tables e below (T1.setTop (mkF m 4 #[.val (.ref a1), .val (.double c2), .second, .val (.double c3), .second] [])) _
    refine XS.aloadN X1.here hx rfl (hb hby own_d3_4) rfl rfl ?_
    show Steps p.tables e below (T1.setTop (mkF m 5 #[.val (.ref a1), .val (.double c2), .second, .val (.double c3), .second] [(.ref a1)])) _
    refine XS.dloadN X1.here hx rfl (hb hby own_d3_5) rfl ?_
    show Steps p.tables e below (T1.setTop (mkF m 6 #[.val (.ref a1), .val (.double c2), .second, .val (.double c3), .second] [(.double c2), (.ref a1)])) _
    refine st3 _ ?_
    show Steps p.tables e below (T3.setTop (mkF m 9 #[.val (.ref a1), .val (.double c2), .second, .val (.double c3), .second] [])) _
    refine XS.aloadN X3.here hx rfl (hb hby own_d3_9) rfl rfl ?_
    show Steps p.tables e below (T3.setTop (mkF m 10 #[.val (.ref a1), .val (.double c2), .second, .val (.double c3), .second] [(.ref a1)])) _
    refine XS.dloadN X3.here hx rfl (hb hby own_d3_10) rfl ?_
    show Steps p.tables e below (T3.setTop (mkF m 11 #[.val (.ref a1), .val (.double c2), .second, .val (.double c3), .second] [(.double c3), (.ref a1)])) _
    refine st10 _ ?_
    show Steps p.tables e below (T10.setTop (mkF m 14 #[.val (.ref a1), .val (.double c2), .second, .val (.double c3), .second] [])) _
    exact X10.returnOut hx Bd.returns (hb hby own_d3_14) hr
  · show own_Q3 Z a1 c2 c3 w_low_a1 w_high_a1 h0 n0 _ T10.heap _
    rw [e10]
    exact ⟨rfl, N11, K13, f14, f15, f16⟩
-- body 6
theorem own_d6_0 : decode prog_23_method_4_code 0 = .ok (.aload_n 0, 1) := by decide +kernel
theorem own_d6_1 : decode prog_23_method_4_code 1 = .ok (.getfield 7, 3) := by decide +kernel
theorem own_d6_4 : decode prog_23_method_4_code 4 = .ok (.dconst 1, 1) := by decide +kernel
theorem own_d6_5 : decode prog_23_method_4_code 5 = .ok (.dcmp .g, 1) := by decide +kernel
theorem own_d6_6 : decode prog_23_method_4_code 6 = .ok (.ifCond .ge 7, 3) := by decide +kernel
theorem own_d6_9 : decode prog_23_method_4_code 9 = .ok (.iconst 1, 1) := by decide +kernel
theorem own_d6_10 : decode prog_23_method_4_code 10 = .ok (.goto 4, 3) := by decide +kernel
theorem own_d6_13 : decode prog_23_method_4_code 13 = .ok (.iconst 0, 1) := by decide +kernel
theorem own_d6_14 : decode prog_23_method_4_code 14 = .ok (.ireturn, 1) := by decide +kernel
theorem own_ef6 (m : MethodId) (x0 : Addr) : entryFrame m #[(.ref x0)] 1 = mkF m 0 #[.val (.ref x0)] [] := by first | (simp [entryFrame, mkF, argsToLocals, Value.category]; done) | rfl
def own_f6 (w_low_a1 : UInt64) : Int32 := if (cmpValue (FP.dcmp w_low_a1 FP.dconst1) .g) < (0 : Int32) then (1 : Int32)
    else (0 : Int32)
def own_Q6 (Z : State) (a1 : Addr) (w_low_a1 : UInt64) (h0 : Heap) (n0 : Nat) (v : Option Value) (h : Heap) (L : List Loc) : Prop := v = some (.int (own_f6 w_low_a1)) ∧ Fr n0 L ∧ h = h0
set_option maxRecDepth 65536 in
set_option maxHeartbeats 40000000 in
theorem own_rm6 (l : Launch) (Z : State) (a0 : Array Value) (hw : ∀ d ∈ tables_1, d.before a0 Z = true) (ws : List Jvm.Cond) (a1 : Addr) (w_low_a1 : UInt64) (h0 : Heap) (n0 : Nat) (Z0 : n0 ≤ h0.size) (F_low_a1 : Fld Z h0 a1 "com/example/edgbaston/edgbaston/model/Interval" "low" "D" (.double w_low_a1)) :
    MetFree l (⟨"com/example/edgbaston/edgbaston/model/Interval", "canBeFalse", "()Z"⟩ : MethodName) (head1 (Jvm.Cond.code (⟨"com/example/edgbaston/edgbaston/model/Interval", "canBeFalse", "()Z"⟩ : MethodName) prog_23_method_4_code 1 (some .boolean) :: ws) ({ frames := 0, cells := 0, slots := 0, locals := 0 } : Room)) (fun a U => a = #[(.ref a1)] ∧ Z.Warmed39 U.vm ∧ U.heap = h0) (fun _ _ _ _ _ => True) (fun _ U o U' => ∃ v L, o = .returned v ∧ own_Q6 Z a1 w_low_a1 h0 n0 v U'.heap L ∧ FrameEnd U o U' L ({ frames := 0, cells := 0, slots := 0, locals := 0 } : Room).cells ({ frames := 0, cells := 0, slots := 0, locals := 0 } : Room).slots) := by
  refine MetFree.of_bodySF (plainFor_of_name own_pn21) hisR ?_
  intro p e s m args below meth c s₁ Bd hml0 hP hK
  obtain ⟨rfl, hZ, hh⟩ := hP
  have hx := Bd.exec
  have hby := Bd.bytes
  have hml : c.maxLocals = 1 := hml0
  have hown : s.vm.findClass "com/example/edgbaston/edgbaston/model/Interval" = some m.cls := findClass_of_methodNamed Bd.named
  have hnm := (name_of_methodNamed Bd.named Bd.method).1
  have X0 : Stand p l e ({ frames := 0, cells := 0, slots := 0, locals := 0 } : Room) s m #[(.ref a1)] below meth c s₁ [] 0 0 := Stand.of_body Bd
  have hS0 : s.Since s.vm 0 := (State.WarmedH.refl s).since 0
  have hk0 : 0 ≤ h0.size := Nat.zero_le _
  have hlk := Bd.notSynchronized
  have e0 : s₁.heap = h0 := by rw [← hh, Bd.state]; rfl
  have N0 := Fr.nil n0
  have pre0 : ∀ t, Steps p.tables e below (s₁.setTop (mkF m 0 #[.val (.ref a1)] [])) t → Steps p.tables e below (s₁.setTop (entryFrame m #[(.ref a1)] 1)) t := fun t k => castTop (own_ef6 m a1) k
  obtain ⟨T1, X1, e1, st1⟩ := getF X0 hx hZ hown (host := "") (Or.inl (hw _ (List.mem_of_getElem? (i := 21) rfl))) Via.refl e0 F_low_a1 (g := (mkF m 1 #[.val (.ref a1)] [(.ref a1)])) rfl rfl (hb hby own_d6_1)
  have k2 : ∀ t, Steps p.tables e below (T1.setTop (mkF m 6 #[.val (.ref a1)] [(.int (cmpValue (FP.dcmp w_low_a1 FP.dconst1) .g))])) t → Steps p.tables e below (s₁.setTop (entryFrame m #[(.ref a1)] 1)) t := by
    intro t kt
    refine pre0 t ?_
    show Steps p.tables e below (s₁.setTop (mkF m 0 #[.val (.ref a1)] [])) _
    refine XS.aloadN X0.here hx rfl (hb hby own_d6_0) rfl rfl ?_
    show Steps p.tables e below (s₁.setTop (mkF m 1 #[.val (.ref a1)] [(.ref a1)])) _
    refine st1 _ ?_
    show Steps p.tables e below (T1.setTop (mkF m 4 #[.val (.ref a1)] [(.double w_low_a1)])) _
    refine XS.dconst1 X1.here hx rfl (hb hby own_d6_4) rfl ?_
    show Steps p.tables e below (T1.setTop (mkF m 5 #[.val (.ref a1)] [(.double FP.dconst1), (.double w_low_a1)])) _
    refine XS.dcmpS X1.here hx rfl (hb hby own_d6_5) rfl rfl ?_
    exact kt
  by_cases hc1 : (cmpValue (FP.dcmp w_low_a1 FP.dconst1) .g) < (0 : Int32)
  ·
    obtain ⟨fs, hr, hrun, hended, hW, hsame⟩ := X1.leave (hlocks := hlk) (v := some (.int (1 : Int32))) (fun h => by rw [Bd.returns] at h; cases h)
    refine ⟨_, _, k2 _ ?_, hrun, hended, _, _, rfl, ?_, ⟨_, rfl⟩, hW, hsame.mono (by decide) (by decide)⟩
    · show Steps p.tables e below (T1.setTop (mkF m 6 #[.val (.ref a1)] [(.int (cmpValue (FP.dcmp w_low_a1 FP.dconst1) .g))])) _
      refine XS.ifNo X1.here hx rfl (hb hby own_d6_6) rfl ((if0 _ _).trans (tlt hc1).2.1) ?_
      show Steps p.tables e below (T1.setTop (mkF m 9 #[.val (.ref a1)] [])) _
      refine XS.iconst X1.here hx rfl (hb hby own_d6_9) ?_
      show Steps p.tables e below (T1.setTop (mkF m 10 #[.val (.ref a1)] [(.int (1 : Int32))])) _
      refine XS.goto X1.here hx rfl (pc0 := 10) (pc' := 14) rfl (hb hby own_d6_10) (by decide) (by decide) ?_
      show Steps p.tables e below (T1.setTop (mkF m 14 #[.val (.ref a1)] [(.int (1 : Int32))])) _
      exact retN X1 hx (t := .boolean) Bd.returns (by simp) (hb hby own_d6_14) hr
    · show own_Q6 Z a1 w_low_a1 h0 n0 _ T1.heap _
      rw [e1]
      exact ⟨(by rw [own_f6, if_pos hc1]), N0, rfl⟩
  ·
    obtain ⟨fs, hr, hrun, hended, hW, hsame⟩ := X1.leave (hlocks := hlk) (v := some (.int (0 : Int32))) (fun h => by rw [Bd.returns] at h; cases h)
    refine ⟨_, _, k2 _ ?_, hrun, hended, _, _, rfl, ?_, ⟨_, rfl⟩, hW, hsame.mono (by decide) (by decide)⟩
    · show Steps p.tables e below (T1.setTop (mkF m 6 #[.val (.ref a1)] [(.int (cmpValue (FP.dcmp w_low_a1 FP.dconst1) .g))])) _
      refine XS.ifYes X1.here hx rfl (pc0 := 6) (pc' := 13) rfl (hb hby own_d6_6) rfl ((if0 _ _).trans (flt hc1).2.1) (by decide) (by decide) ?_
      show Steps p.tables e below (T1.setTop (mkF m 13 #[.val (.ref a1)] [])) _
      refine XS.iconst X1.here hx rfl (hb hby own_d6_13) ?_
      show Steps p.tables e below (T1.setTop (mkF m 14 #[.val (.ref a1)] [(.int (0 : Int32))])) _
      exact retN X1 hx (t := .boolean) Bd.returns (by simp) (hb hby own_d6_14) hr
    · show own_Q6 Z a1 w_low_a1 h0 n0 _ T1.heap _
      rw [e1]
      exact ⟨(by rw [own_f6, if_neg hc1]), N0, rfl⟩
-- body 7
theorem own_d7_0 : decode prog_23_method_3_code 0 = .ok (.aload_n 0, 1) := by decide +kernel
theorem own_d7_1 : decode prog_23_method_3_code 1 = .ok (.getfield 13, 3) := by decide +kernel
theorem own_d7_4 : decode prog_23_method_3_code 4 = .ok (.dconst 1, 1) := by decide +kernel
theorem own_d7_5 : decode prog_23_method_3_code 5 = .ok (.dcmp .l, 1) := by decide +kernel
theorem own_d7_6 : decode prog_23_method_3_code 6 = .ok (.ifCond .lt 7, 3) := by decide +kernel
theorem own_d7_9 : decode prog_23_method_3_code 9 = .ok (.iconst 1, 1) := by decide +kernel
theorem own_d7_10 : decode prog_23_method_3_code 10 = .ok (.goto 4, 3) := by decide +kernel
theorem own_d7_13 : decode prog_23_method_3_code 13 = .ok (.iconst 0, 1) := by decide +kernel
theorem own_d7_14 : decode prog_23_method_3_code 14 = .ok (.ireturn, 1) := by decide +kernel
theorem own_ef7 (m : MethodId) (x0 : Addr) : entryFrame m #[(.ref x0)] 1 = mkF m 0 #[.val (.ref x0)] [] := by first | (simp [entryFrame, mkF, argsToLocals, Value.category]; done) | rfl
def own_f7 (w_high_a1 : UInt64) : Int32 := if (cmpValue (FP.dcmp w_high_a1 FP.dconst1) .l) < (0 : Int32) then (0 : Int32)
    else (1 : Int32)
def own_Q7 (Z : State) (a1 : Addr) (w_high_a1 : UInt64) (h0 : Heap) (n0 : Nat) (v : Option Value) (h : Heap) (L : List Loc) : Prop := v = some (.int (own_f7 w_high_a1)) ∧ Fr n0 L ∧ h = h0
set_option maxRecDepth 65536 in
set_option maxHeartbeats 40000000 in
theorem own_rm7 (l : Launch) (Z : State) (a0 : Array Value) (hw : ∀ d ∈ tables_1, d.before a0 Z = true) (ws : List Jvm.Cond) (a1 : Addr) (w_high_a1 : UInt64) (h0 : Heap) (n0 : Nat) (Z0 : n0 ≤ h0.size) (F_high_a1 : Fld Z h0 a1 "com/example/edgbaston/edgbaston/model/Interval" "high" "D" (.double w_high_a1)) :
    MetFree l (⟨"com/example/edgbaston/edgbaston/model/Interval", "canBeTrue", "()Z"⟩ : MethodName) (head1 (Jvm.Cond.code (⟨"com/example/edgbaston/edgbaston/model/Interval", "canBeTrue", "()Z"⟩ : MethodName) prog_23_method_3_code 1 (some .boolean) :: ws) ({ frames := 0, cells := 0, slots := 0, locals := 0 } : Room)) (fun a U => a = #[(.ref a1)] ∧ Z.Warmed39 U.vm ∧ U.heap = h0) (fun _ _ _ _ _ => True) (fun _ U o U' => ∃ v L, o = .returned v ∧ own_Q7 Z a1 w_high_a1 h0 n0 v U'.heap L ∧ FrameEnd U o U' L ({ frames := 0, cells := 0, slots := 0, locals := 0 } : Room).cells ({ frames := 0, cells := 0, slots := 0, locals := 0 } : Room).slots) := by
  refine MetFree.of_bodySF (plainFor_of_name own_pn21) hisR ?_
  intro p e s m args below meth c s₁ Bd hml0 hP hK
  obtain ⟨rfl, hZ, hh⟩ := hP
  have hx := Bd.exec
  have hby := Bd.bytes
  have hml : c.maxLocals = 1 := hml0
  have hown : s.vm.findClass "com/example/edgbaston/edgbaston/model/Interval" = some m.cls := findClass_of_methodNamed Bd.named
  have hnm := (name_of_methodNamed Bd.named Bd.method).1
  have X0 : Stand p l e ({ frames := 0, cells := 0, slots := 0, locals := 0 } : Room) s m #[(.ref a1)] below meth c s₁ [] 0 0 := Stand.of_body Bd
  have hS0 : s.Since s.vm 0 := (State.WarmedH.refl s).since 0
  have hk0 : 0 ≤ h0.size := Nat.zero_le _
  have hlk := Bd.notSynchronized
  have e0 : s₁.heap = h0 := by rw [← hh, Bd.state]; rfl
  have N0 := Fr.nil n0
  have pre0 : ∀ t, Steps p.tables e below (s₁.setTop (mkF m 0 #[.val (.ref a1)] [])) t → Steps p.tables e below (s₁.setTop (entryFrame m #[(.ref a1)] 1)) t := fun t k => castTop (own_ef7 m a1) k
  obtain ⟨T1, X1, e1, st1⟩ := getF X0 hx hZ hown (host := "") (Or.inl (hw _ (List.mem_of_getElem? (i := 23) rfl))) Via.refl e0 F_high_a1 (g := (mkF m 1 #[.val (.ref a1)] [(.ref a1)])) rfl rfl (hb hby own_d7_1)
  have k2 : ∀ t, Steps p.tables e below (T1.setTop (mkF m 6 #[.val (.ref a1)] [(.int (cmpValue (FP.dcmp w_high_a1 FP.dconst1) .l))])) t → Steps p.tables e below (s₁.setTop (entryFrame m #[(.ref a1)] 1)) t := by
    intro t kt
    refine pre0 t ?_
    show Steps p.tables e below (s₁.setTop (mkF m 0 #[.val (.ref a1)] [])) _
    refine XS.aloadN X0.here hx rfl (hb hby own_d7_0) rfl rfl ?_
    show Steps p.tables e below (s₁.setTop (mkF m 1 #[.val (.ref a1)] [(.ref a1)])) _
    refine st1 _ ?_
    show Steps p.tables e below (T1.setTop (mkF m 4 #[.val (.ref a1)] [(.double w_high_a1)])) _
    refine XS.dconst1 X1.here hx rfl (hb hby own_d7_4) rfl ?_
    show Steps p.tables e below (T1.setTop (mkF m 5 #[.val (.ref a1)] [(.double FP.dconst1), (.double w_high_a1)])) _
    refine XS.dcmpS X1.here hx rfl (hb hby own_d7_5) rfl rfl ?_
    exact kt
  by_cases hc1 : (cmpValue (FP.dcmp w_high_a1 FP.dconst1) .l) < (0 : Int32)
  ·
    obtain ⟨fs, hr, hrun, hended, hW, hsame⟩ := X1.leave (hlocks := hlk) (v := some (.int (0 : Int32))) (fun h => by rw [Bd.returns] at h; cases h)
    refine ⟨_, _, k2 _ ?_, hrun, hended, _, _, rfl, ?_, ⟨_, rfl⟩, hW, hsame.mono (by decide) (by decide)⟩
    · show Steps p.tables e below (T1.setTop (mkF m 6 #[.val (.ref a1)] [(.int (cmpValue (FP.dcmp w_high_a1 FP.dconst1) .l))])) _
      refine XS.ifYes X1.here hx rfl (pc0 := 6) (pc' := 13) rfl (hb hby own_d7_6) rfl ((if0 _ _).trans (tlt hc1).1) (by decide) (by decide) ?_
      show Steps p.tables e below (T1.setTop (mkF m 13 #[.val (.ref a1)] [])) _
      refine XS.iconst X1.here hx rfl (hb hby own_d7_13) ?_
      show Steps p.tables e below (T1.setTop (mkF m 14 #[.val (.ref a1)] [(.int (0 : Int32))])) _
      exact retN X1 hx (t := .boolean) Bd.returns (by simp) (hb hby own_d7_14) hr
    · show own_Q7 Z a1 w_high_a1 h0 n0 _ T1.heap _
      rw [e1]
      exact ⟨(by rw [own_f7, if_pos hc1]), N0, rfl⟩
  ·
    obtain ⟨fs, hr, hrun, hended, hW, hsame⟩ := X1.leave (hlocks := hlk) (v := some (.int (1 : Int32))) (fun h => by rw [Bd.returns] at h; cases h)
    refine ⟨_, _, k2 _ ?_, hrun, hended, _, _, rfl, ?_, ⟨_, rfl⟩, hW, hsame.mono (by decide) (by decide)⟩
    · show Steps p.tables e below (T1.setTop (mkF m 6 #[.val (.ref a1)] [(.int (cmpValue (FP.dcmp w_high_a1 FP.dconst1) .l))])) _
      refine XS.ifNo X1.here hx rfl (hb hby own_d7_6) rfl ((if0 _ _).trans (flt hc1).1) ?_
      show Steps p.tables e below (T1.setTop (mkF m 9 #[.val (.ref a1)] [])) _
      refine XS.iconst X1.here hx rfl (hb hby own_d7_9) ?_
      show Steps p.tables e below (T1.setTop (mkF m 10 #[.val (.ref a1)] [(.int (1 : Int32))])) _
      refine XS.goto X1.here hx rfl (pc0 := 10) (pc' := 14) rfl (hb hby own_d7_10) (by decide) (by decide) ?_
      show Steps p.tables e below (T1.setTop (mkF m 14 #[.val (.ref a1)] [(.int (1 : Int32))])) _
      exact retN X1 hx (t := .boolean) Bd.returns (by simp) (hb hby own_d7_14) hr
    · show own_Q7 Z a1 w_high_a1 h0 n0 _ T1.heap _
      rw [e1]
      exact ⟨(by rw [own_f7, if_neg hc1]), N0, rfl⟩
-- body 0
theorem own_ef0 (m : MethodId) (x0 : Int32) (x1 : Int32) (x2 : Int32) : entryFrame m #[(.int x0), (.int x1), (.int x2)] maxLocals = mkF m 0 #[.val (.int x0), .val (.int x1), .val (.int x2), .unset, .unset, .unset, .unset, .unset, .unset, .unset, .unset, .unset, .unset, .unset, .unset, .unset, .unset] [] := by first | (simp [entryFrame, mkF, argsToLocals, Value.category, maxLocals]; done) | rfl
def own_lo (p1 : Int32) (p2 : Int32) : Int64 := ((own_f1 p1 p2).toInt64)
def own_hi (p1 : Int32) (p2 : Int32) : Int64 := ((own_f2 p1 p2).toInt64)
def own_f0 (p1 : Int32) (p2 : Int32) (p3 : Int32) : Int32 := if (p3 &&& (1 : Int32)) = (0 : Int32) then (if (0 : Int32) < (lcmpW (own_lo p1 p2) (0 : Int64)) then (if (own_f6 (FP.l2d (own_lo p1 p2))) = (0 : Int32) then (if (own_f6 (FP.l2d (own_lo p1 p2))) = (own_f7 (FP.dsub FP.dconst1 (FP.l2d (own_lo p1 p2)))) then (1 : Int32)
          else (0 : Int32))
        else (0 : Int32))
      else if (own_f6 (FP.l2d (own_lo p1 p2))) = (1 : Int32) then (if (own_f6 (FP.l2d (own_lo p1 p2))) = (own_f7 (FP.dsub FP.dconst1 (FP.l2d (own_lo p1 p2)))) then (1 : Int32)
          else (0 : Int32))
        else (0 : Int32))
    else if (lcmpW (own_lo p1 p2) (2 : Int64)) < (0 : Int32) then (if (own_f6 (FP.ddiv (FP.l2d (own_lo p1 p2)) (4611686018427387904 : UInt64))) = (1 : Int32) then (1 : Int32)
        else (0 : Int32))
      else if (own_f6 (FP.ddiv (FP.l2d (own_lo p1 p2)) (4611686018427387904 : UInt64))) = (0 : Int32) then (1 : Int32)
        else (0 : Int32)
def own_Q0 (Z : State) (p1 : Int32) (p2 : Int32) (p3 : Int32) (h0 : Heap) (n0 : Nat) (v : Option Value) (h : Heap) (L : List Loc) : Prop := v = some (.int (own_f0 p1 p2 p3)) ∧ Fr n0 L
set_option maxRecDepth 65536 in
set_option maxHeartbeats 40000000 in
theorem own_rm0 (l : Launch) (Z : State) (a0 : Array Value) (hw : ∀ d ∈ tables_1, d.before a0 Z = true) (ws : List Jvm.Cond) (p1 : Int32) (p2 : Int32) (p3 : Int32) (h0 : Heap) (n0 : Nat) (Z0 : n0 ≤ h0.size) :
    MetFree l x (head1 (Jvm.Cond.code x code maxLocals ret :: ws) room_1) (fun a U => a = #[(.int p1), (.int p2), (.int p3)] ∧ Z.Warmed39 U.vm ∧ U.heap = h0) (fun _ _ _ _ _ => True) (fun _ U o U' => ∃ v L, o = .returned v ∧ own_Q0 Z p1 p2 p3 h0 n0 v U'.heap L ∧ FrameEnd U o U' L room_1.cells room_1.slots) := by
  refine MetFree.of_bodySF (plainFor_of_name own_pn54) hisR ?_
  intro p e s m args below meth c s₁ Bd hml0 hP hK
  obtain ⟨rfl, hZ, hh⟩ := hP
  have hx := Bd.exec
  have hby := Bd.bytes
  have hml : c.maxLocals = 17 := hml0
  have hown : s.vm.findClass "com/example/edgbaston/edgbaston/model/IntervalCanBeFalsePinLaw" = some m.cls := findClass_of_methodNamed Bd.named
  have hnm := (name_of_methodNamed Bd.named Bd.method).1
  have X0 : Stand p l e room_1 s m #[(.int p1), (.int p2), (.int p3)] below meth c s₁ [] 0 0 := Stand.of_body Bd
  have hS0 : s.Since s.vm 0 := (State.WarmedH.refl s).since 0
  have hk0 : 0 ≤ h0.size := Nat.zero_le _
  have hlk := Bd.notSynchronized
  have e0 : s₁.heap = h0 := by rw [← hh, Bd.state]; rfl
  have N0 := Fr.nil n0
  have pre0 : ∀ t, Steps p.tables e below (s₁.setTop (mkF m 0 #[.val (.int p1), .val (.int p2), .val (.int p3), .unset, .unset, .unset, .unset, .unset, .unset, .unset, .unset, .unset, .unset, .unset, .unset, .unset, .unset] [])) t → Steps p.tables e below (s₁.setTop (entryFrame m #[(.int p1), (.int p2), (.int p3)] maxLocals)) t := fun t k => castTop (own_ef0 m p1 p2 p3) k
  have k1 : ∀ t, Steps p.tables e below (s₁.setTop (mkF m 3 #[.val (.int p1), .val (.int p2), .val (.int p3), .unset, .unset, .unset, .unset, .unset, .unset, .unset, .unset, .unset, .unset, .unset, .unset, .unset, .unset] [(.int (p3 &&& (1 : Int32)))])) t → Steps p.tables e below (s₁.setTop (entryFrame m #[(.int p1), (.int p2), (.int p3)] maxLocals)) t := by
    intro t kt
    refine pre0 t ?_
    show Steps p.tables e below (s₁.setTop (mkF m 0 #[.val (.int p1), .val (.int p2), .val (.int p3), .unset, .unset, .unset, .unset, .unset, .unset, .unset, .unset, .unset, .unset, .unset, .unset, .unset, .unset] [])) _
    refine XS.iloadN X0.here hx rfl (hb hby at_0) rfl ?_
    show Steps p.tables e below (s₁.setTop (mkF m 1 #[.val (.int p1), .val (.int p2), .val (.int p3), .unset, .unset, .unset, .unset, .unset, .unset, .unset, .unset, .unset, .unset, .unset, .unset, .unset, .unset] [(.int p3)])) _
    refine XS.iconst X0.here hx rfl (hb hby at_1) ?_
    show Steps p.tables e below (s₁.setTop (mkF m 2 #[.val (.int p1), .val (.int p2), .val (.int p3), .unset, .unset, .unset, .unset, .unset, .unset, .unset, .unset, .unset, .unset, .unset, .unset, .unset, .unset] [(.int (1 : Int32)), (.int p3)])) _
    refine XS.iand X0.here hx rfl (hb hby at_2) rfl ?_
    exact kt
  by_cases hc1 : (p3 &&& (1 : Int32)) = (0 : Int32)
  ·
    obtain ⟨v2, _, ⟨T2, L2, k2, n2⟩, -, X2, ⟨Lc2, hQ2, l2, y2, z2⟩, st2⟩ := Jvm.LawKit.callS X0 hx (y := (⟨"java/lang/Math", "min", "(II)I"⟩ : MethodName)) hown (mvT hZ (hw _ (List.mem_of_getElem? (i := 0) rfl))) (mvT hZ (hw _ (List.mem_of_getElem? (i := 1) rfl))) (mvT hZ (hw _ (List.mem_of_getElem? (i := 2) rfl))) (mvT hZ (hw _ (List.mem_of_getElem? (i := 3) rfl))) (by decide) (backOf (W := 0) (own_rm1 l Z a0 hw [] p1 p2 h0 n0 Z0) hZ (hw _ (List.mem_of_getElem? (i := 3) rfl)) (hw _ (List.mem_of_getElem? (i := 2) rfl)) (by decide) (by decide)) (g := (mkF m 14 #[.val (.int p1), .val (.int p2), .val (.int p3), .val (.int (0 : Int32)), .unset, .unset, .unset, .unset, .unset, .unset, .unset, .unset, .unset, .unset, .unset, .unset, .unset] [(.int p2), (.int p1)])) rfl (by rw [hml]; rfl) (argsL := [(.int p1), (.int p2)]) (rest := []) (lenOf own_pd49 rfl) rfl (by show 2 * 0 + _ ≤ _; exact Nat.le_of_eq rfl) (hb hby at_14) (fun _ _ => ⟨rfl, e0, (by decide : 0 + 0 ≤ _), (by decide : 0 + 0 ≤ _)⟩)
    dsimp only [Pt.U, Pt.locs, Pt.cells, Pt.slots] at X2 l2 y2 z2 st2 hQ2
    subst l2 y2 z2
    obtain ⟨rfl, N2q, e2⟩ := hQ2
    have N3 := Fr.app N0 N2q
    obtain ⟨v4, _, ⟨T4, L4, k4, n4⟩, -, X4, ⟨Lc4, hQ4, l4, y4, z4⟩, st4⟩ := Jvm.LawKit.callS X2 hx (y := (⟨"java/lang/Math", "max", "(II)I"⟩ : MethodName)) hown (mvT hZ (hw _ (List.mem_of_getElem? (i := 4) rfl))) (mvT hZ (hw _ (List.mem_of_getElem? (i := 5) rfl))) (mvT hZ (hw _ (List.mem_of_getElem? (i := 2) rfl))) (mvT hZ (hw _ (List.mem_of_getElem? (i := 6) rfl))) (by decide) (backOf (W := 0) (own_rm2 l Z a0 hw [] p1 p2 h0 n0 Z0) hZ (hw _ (List.mem_of_getElem? (i := 6) rfl)) (hw _ (List.mem_of_getElem? (i := 2) rfl)) (by decide) (by decide)) (g := (mkF m 22 #[.val (.int p1), .val (.int p2), .val (.int p3), .val (.int (0 : Int32)), .val (.long (own_lo p1 p2)), .second, .unset, .unset, .unset, .unset, .unset, .unset, .unset, .unset, .unset, .unset, .unset] [(.int p2), (.int p1)])) rfl (by rw [hml]; rfl) (argsL := [(.int p1), (.int p2)]) (rest := []) (lenOf own_pd49 rfl) rfl (by show 2 * 0 + _ ≤ _; exact Nat.le_of_eq rfl) (hb hby at_22) (fun _ _ => ⟨rfl, e2, (by decide : 0 + 0 ≤ _), (by decide : 0 + 0 ≤ _)⟩)
    dsimp only [Pt.U, Pt.locs, Pt.cells, Pt.slots] at X4 l4 y4 z4 st4 hQ4
    subst l4 y4 z4
    obtain ⟨rfl, N4q, e4⟩ := hQ4
    have N5 := Fr.app N3 N4q
    obtain ⟨T6, h6, X6, e6, E6, A6, D6, -, st6⟩ := newO X4 hx hZ hown (hw _ (List.mem_of_getElem? (i := 7) rfl)) (hw _ (List.mem_of_getElem? (i := 8) rfl)) (hw _ (List.mem_of_getElem? (i := 9) rfl)) e4 (g := (mkF m 66 #[.val (.int p1), .val (.int p2), .val (.int p3), .val (.int (0 : Int32)), .val (.long (own_lo p1 p2)), .second, .val (.long (own_hi p1 p2)), .second, .val (.double (FP.l2d (own_lo p1 p2))), .second, .val (.double (FP.l2d (own_hi p1 p2))), .second, .unset, .unset, .unset, .unset, .unset] [])) rfl (hb hby at_66) (by decide) (by decide)
    obtain ⟨b6, g6⟩ : ∃ z, z = h0.size := ⟨_, rfl⟩
    rw [← g6] at A6 D6 st6
    have g_b6 : n0 ≤ b6 := Nat.le_trans Z0 (Nat.le_of_eq g6.symm)
    have Z7 := Nat.le_trans Z0 E6.1
    have F_low_b6 : Fld Z h6 b6 "com/example/edgbaston/edgbaston/model/Interval" "low" "D" (.double (0 : UInt64)) := D6 (Or.inr (hw _ (List.mem_of_getElem? (i := 22) rfl))) (ty := .double) (by decide)
    have F_high_b6 : Fld Z h6 b6 "com/example/edgbaston/edgbaston/model/Interval" "high" "D" (.double (0 : UInt64)) := D6 (Or.inr (hw _ (List.mem_of_getElem? (i := 24) rfl))) (ty := .double) (by decide)
    obtain ⟨v8, _, ⟨T8, L8, k8, n8⟩, -, X8, ⟨Lc8, hQ8, l8, y8, z8⟩, st8⟩ := X6.specialBack hx (y := (⟨"com/example/edgbaston/edgbaston/model/Interval", "<init>", "(DD)V"⟩ : MethodName)) rfl hown (mvT hZ (hw _ (List.mem_of_getElem? (i := 10) rfl))) (mvT hZ (hw _ (List.mem_of_getElem? (i := 11) rfl))) (mvT hZ (hw _ (List.mem_of_getElem? (i := 12) rfl))) (by decide) (backOf (W := 1) (own_rm3 l Z a0 hw [] b6 (FP.l2d (own_lo p1 p2)) (FP.l2d (own_hi p1 p2)) (0 : UInt64) (0 : UInt64) h6 n0 Z7 A6 F_low_b6 g_b6 F_high_b6) hZ (hw _ (List.mem_of_getElem? (i := 12) rfl)) (hw _ (List.mem_of_getElem? (i := 9) rfl)) (by decide) (by decide)) (g := (mkF m 74 #[.val (.int p1), .val (.int p2), .val (.int p3), .val (.int (0 : Int32)), .val (.long (own_lo p1 p2)), .second, .val (.long (own_hi p1 p2)), .second, .val (.double (FP.l2d (own_lo p1 p2))), .second, .val (.double (FP.l2d (own_hi p1 p2))), .second, .unset, .unset, .unset, .unset, .unset] [(.double (FP.l2d (own_hi p1 p2))), (.double (FP.l2d (own_lo p1 p2))), (.ref b6), (.ref b6)])) rfl (by rw [hml]; rfl) (Steps.refl _) (a := b6) (argsL := [(.double (FP.l2d (own_lo p1 p2))), (.double (FP.l2d (own_hi p1 p2)))]) (rest := [(.ref b6)]) (lenOf own_pd52 rfl) rfl (by show 2 * 0 + _ ≤ _; exact Nat.le_of_eq rfl) (hb hby at_74) (fun _ _ => ⟨rfl, e6, (by decide : 1 + 0 ≤ _), (by decide : 2 + 0 ≤ _)⟩)
    dsimp only [Pt.U, Pt.locs, Pt.cells, Pt.slots] at X8 l8 y8 z8 st8 hQ8
    subst l8 y8 z8
    obtain ⟨rfl, N8q, K8, Q8_0, Q8_1, Q8_2⟩ := hQ8
    have f9 := A6.keep K8
    have Z12 := Nat.le_trans Z7 K8.1
    have N13 := Fr.app N5 N8q
    obtain ⟨cq14, kq14, q14a, q14b, q14c⟩ := isOf hZ rfl Q8_0
    obtain ⟨v14, _, ⟨T14, L14, k14, n14⟩, -, X14, ⟨Lc14, hQ14, l14, y14, z14⟩, st14⟩ := X8.virtualBack hx (y := (⟨"com/example/edgbaston/edgbaston/model/Interval", "canBeFalse", "()Z"⟩ : MethodName)) (z := (⟨"com/example/edgbaston/edgbaston/model/Interval", "canBeFalse", "()Z"⟩ : MethodName)) hown (mvT hZ (hw _ (List.mem_of_getElem? (i := 25) rfl))) (mvT hZ (hw _ (List.mem_of_getElem? (i := 26) rfl))) (notFace_of_selects (args := #[]) (mvT hZ (hw _ (List.mem_of_getElem? (i := 28) rfl)))) (mvT hZ (hw _ (List.mem_of_getElem? (i := 28) rfl))) (mvT hZ (hw _ (List.mem_of_getElem? (i := 27) rfl))) (by decide) (backOf (W := 0) (own_rm6 l Z a0 hw [] b6 (FP.l2d (own_lo p1 p2)) T8.heap n0 Z12 Q8_1) hZ (hw _ (List.mem_of_getElem? (i := 29) rfl)) (hw _ (List.mem_of_getElem? (i := 9) rfl)) (by decide) (by decide)) q14a q14c (g := (mkF m 81 #[.val (.int p1), .val (.int p2), .val (.int p3), .val (.int (0 : Int32)), .val (.long (own_lo p1 p2)), .second, .val (.long (own_hi p1 p2)), .second, .val (.double (FP.l2d (own_lo p1 p2))), .second, .val (.double (FP.l2d (own_hi p1 p2))), .second, .val (.ref b6), .unset, .unset, .unset, .unset] [(.ref b6)])) rfl (by rw [hml]; rfl) (Steps.refl _) (argsL := []) (rest := []) (lenOf own_pd53 rfl) rfl (by show 2 * 0 + _ ≤ _; exact Nat.le_of_eq rfl) (hb hby at_81) (fun _ _ => ⟨rfl, rfl, (by decide : 1 + 0 ≤ _), (by decide : 2 + 0 ≤ _)⟩)
    dsimp only [Pt.U, Pt.locs, Pt.cells, Pt.slots] at X14 l14 y14 z14 st14 hQ14
    subst l14 y14 z14
    obtain ⟨rfl, N14q, e14⟩ := hQ14
    have N15 := Fr.app N13 N14q
    have k16 : ∀ t, Steps p.tables e below (T14.setTop (mkF m 111 #[.val (.int p1), .val (.int p2), .val (.int p3), .val (.int (0 : Int32)), .val (.long (own_lo p1 p2)), .second, .val (.long (own_hi p1 p2)), .second, .val (.double (FP.l2d (own_lo p1 p2))), .second, .val (.double (FP.l2d (own_hi p1 p2))), .second, .val (.ref b6), .val (.int (own_f6 (FP.l2d (own_lo p1 p2)))), .unset, .unset, .unset] [(.int (lcmpW (own_lo p1 p2) (0 : Int64)))])) t → Steps p.tables e below (s₁.setTop (entryFrame m #[(.int p1), (.int p2), (.int p3)] maxLocals)) t := by
      intro t kt
      refine k1 t ?_
      show Steps p.tables e below (s₁.setTop (mkF m 3 #[.val (.int p1), .val (.int p2), .val (.int p3), .unset, .unset, .unset, .unset, .unset, .unset, .unset, .unset, .unset, .unset, .unset, .unset, .unset, .unset] [(.int (p3 &&& (1 : Int32)))])) _
      refine XS.ifYes X0.here hx rfl (pc0 := 3) (pc' := 10) rfl (hb hby at_3) rfl ((if0 _ _).trans (teq hc1).1) (by decide) (by decide) ?_
      show Steps p.tables e below (s₁.setTop (mkF m 10 #[.val (.int p1), .val (.int p2), .val (.int p3), .unset, .unset, .unset, .unset, .unset, .unset, .unset, .unset, .unset, .unset, .unset, .unset, .unset, .unset] [])) _
      refine XS.iconst X0.here hx rfl (hb hby at_10) ?_
      show Steps p.tables e below (s₁.setTop (mkF m 11 #[.val (.int p1), .val (.int p2), .val (.int p3), .unset, .unset, .unset, .unset, .unset, .unset, .unset, .unset, .unset, .unset, .unset, .unset, .unset, .unset] [(.int (0 : Int32))])) _
      refine XS.istoreN X0.here hx rfl (hb hby at_11) rfl (l' := #[.val (.int p1), .val (.int p2), .val (.int p3), .val (.int (0 : Int32)), .unset, .unset, .unset, .unset, .unset, .unset, .unset, .unset, .unset, .unset, .unset, .unset, .unset]) rfl ?_
      show Steps p.tables e below (s₁.setTop (mkF m 12 #[.val (.int p1), .val (.int p2), .val (.int p3), .val (.int (0 : Int32)), .unset, .unset, .unset, .unset, .unset, .unset, .unset, .unset, .unset, .unset, .unset, .unset, .unset] [])) _
      refine XS.iloadN X0.here hx rfl (hb hby at_12) rfl ?_
      show Steps p.tables e below (s₁.setTop (mkF m 13 #[.val (.int p1), .val (.int p2), .val (.int p3), .val (.int (0 : Int32)), .unset, .unset, .unset, .unset, .unset, .unset, .unset, .unset, .unset, .unset, .unset, .unset, .unset] [(.int p1)])) _
      refine XS.iloadN X0.here hx rfl (hb hby at_13) rfl ?_
      show Steps p.tables e below (s₁.setTop (mkF m 14 #[.val (.int p1), .val (.int p2), .val (.int p3), .val (.int (0 : Int32)), .unset, .unset, .unset, .unset, .unset, .unset, .unset, .unset, .unset, .unset, .unset, .unset, .unset] [(.int p2), (.int p1)])) _
      refine st2 _ ?_
      show Steps p.tables e below (T2.setTop (mkF m 17 #[.val (.int p1), .val (.int p2), .val (.int p3), .val (.int (0 : Int32)), .unset, .unset, .unset, .unset, .unset, .unset, .unset, .unset, .unset, .unset, .unset, .unset, .unset] [(.int (own_f1 p1 p2))])) _
      refine XS.i2l X2.here hx rfl (hb hby at_17) rfl ?_
      show Steps p.tables e below (T2.setTop (mkF m 18 #[.val (.int p1), .val (.int p2), .val (.int p3), .val (.int (0 : Int32)), .unset, .unset, .unset, .unset, .unset, .unset, .unset, .unset, .unset, .unset, .unset, .unset, .unset] [(.long (own_lo p1 p2))])) _
      refine XS.lstore X2.here hx rfl (hb hby at_18) rfl (l' := #[.val (.int p1), .val (.int p2), .val (.int p3), .val (.int (0 : Int32)), .val (.long (own_lo p1 p2)), .second, .unset, .unset, .unset, .unset, .unset, .unset, .unset, .unset, .unset, .unset, .unset]) rfl ?_
      show Steps p.tables e below (T2.setTop (mkF m 20 #[.val (.int p1), .val (.int p2), .val (.int p3), .val (.int (0 : Int32)), .val (.long (own_lo p1 p2)), .second, .unset, .unset, .unset, .unset, .unset, .unset, .unset, .unset, .unset, .unset, .unset] [])) _
      refine XS.iloadN X2.here hx rfl (hb hby at_20) rfl ?_
      show Steps p.tables e below (T2.setTop (mkF m 21 #[.val (.int p1), .val (.int p2), .val (.int p3), .val (.int (0 : Int32)), .val (.long (own_lo p1 p2)), .second, .unset, .unset, .unset, .unset, .unset, .unset, .unset, .unset, .unset, .unset, .unset] [(.int p1)])) _
      refine XS.iloadN X2.here hx rfl (hb hby at_21) rfl ?_
      show Steps p.tables e below (T2.setTop (mkF m 22 #[.val (.int p1), .val (.int p2), .val (.int p3), .val (.int (0 : Int32)), .val (.long (own_lo p1 p2)), .second, .unset, .unset, .unset, .unset, .unset, .unset, .unset, .unset, .unset, .unset, .unset] [(.int p2), (.int p1)])) _
      refine st4 _ ?_
      show Steps p.tables e below (T4.setTop (mkF m 25 #[.val (.int p1), .val (.int p2), .val (.int p3), .val (.int (0 : Int32)), .val (.long (own_lo p1 p2)), .second, .unset, .unset, .unset, .unset, .unset, .unset, .unset, .unset, .unset, .unset, .unset] [(.int (own_f2 p1 p2))])) _
      refine XS.i2l X4.here hx rfl (hb hby at_25) rfl ?_
      show Steps p.tables e below (T4.setTop (mkF m 26 #[.val (.int p1), .val (.int p2), .val (.int p3), .val (.int (0 : Int32)), .val (.long (own_lo p1 p2)), .second, .unset, .unset, .unset, .unset, .unset, .unset, .unset, .unset, .unset, .unset, .unset] [(.long (own_hi p1 p2))])) _
      refine XS.lstore X4.here hx rfl (hb hby at_26) rfl (l' := #[.val (.int p1), .val (.int p2), .val (.int p3), .val (.int (0 : Int32)), .val (.long (own_lo p1 p2)), .second, .val (.long (own_hi p1 p2)), .second, .unset, .unset, .unset, .unset, .unset, .unset, .unset, .unset, .unset]) rfl ?_
      show Steps p.tables e below (T4.setTop (mkF m 28 #[.val (.int p1), .val (.int p2), .val (.int p3), .val (.int (0 : Int32)), .val (.long (own_lo p1 p2)), .second, .val (.long (own_hi p1 p2)), .second, .unset, .unset, .unset, .unset, .unset, .unset, .unset, .unset, .unset] [])) _
      refine XS.iloadN X4.here hx rfl (hb hby at_28) rfl ?_
      show Steps p.tables e below (T4.setTop (mkF m 29 #[.val (.int p1), .val (.int p2), .val (.int p3), .val (.int (0 : Int32)), .val (.long (own_lo p1 p2)), .second, .val (.long (own_hi p1 p2)), .second, .unset, .unset, .unset, .unset, .unset, .unset, .unset, .unset, .unset] [(.int (0 : Int32))])) _
      refine XS.ifYes X4.here hx rfl (pc0 := 29) (pc' := 42) rfl (hb hby at_29) rfl ((if0 _ _).trans (teq (by decide : (0 : Int32) = (0 : Int32))).1) (by decide) (by decide) ?_
      show Steps p.tables e below (T4.setTop (mkF m 42 #[.val (.int p1), .val (.int p2), .val (.int p3), .val (.int (0 : Int32)), .val (.long (own_lo p1 p2)), .second, .val (.long (own_hi p1 p2)), .second, .unset, .unset, .unset, .unset, .unset, .unset, .unset, .unset, .unset] [])) _
      refine XS.lload X4.here hx rfl (hb hby at_42) rfl ?_
      show Steps p.tables e below (T4.setTop (mkF m 44 #[.val (.int p1), .val (.int p2), .val (.int p3), .val (.int (0 : Int32)), .val (.long (own_lo p1 p2)), .second, .val (.long (own_hi p1 p2)), .second, .unset, .unset, .unset, .unset, .unset, .unset, .unset, .unset, .unset] [(.long (own_lo p1 p2))])) _
      refine XS.l2dS X4.here hx rfl (hb hby at_44) rfl rfl ?_
      show Steps p.tables e below (T4.setTop (mkF m 45 #[.val (.int p1), .val (.int p2), .val (.int p3), .val (.int (0 : Int32)), .val (.long (own_lo p1 p2)), .second, .val (.long (own_hi p1 p2)), .second, .unset, .unset, .unset, .unset, .unset, .unset, .unset, .unset, .unset] [(.double (FP.l2d (own_lo p1 p2)))])) _
      refine XS.dstore X4.here hx rfl (hb hby at_45) rfl (l' := #[.val (.int p1), .val (.int p2), .val (.int p3), .val (.int (0 : Int32)), .val (.long (own_lo p1 p2)), .second, .val (.long (own_hi p1 p2)), .second, .val (.double (FP.l2d (own_lo p1 p2))), .second, .unset, .unset, .unset, .unset, .unset, .unset, .unset]) rfl ?_
      show Steps p.tables e below (T4.setTop (mkF m 47 #[.val (.int p1), .val (.int p2), .val (.int p3), .val (.int (0 : Int32)), .val (.long (own_lo p1 p2)), .second, .val (.long (own_hi p1 p2)), .second, .val (.double (FP.l2d (own_lo p1 p2))), .second, .unset, .unset, .unset, .unset, .unset, .unset, .unset] [])) _
      refine XS.iloadN X4.here hx rfl (hb hby at_47) rfl ?_
      show Steps p.tables e below (T4.setTop (mkF m 48 #[.val (.int p1), .val (.int p2), .val (.int p3), .val (.int (0 : Int32)), .val (.long (own_lo p1 p2)), .second, .val (.long (own_hi p1 p2)), .second, .val (.double (FP.l2d (own_lo p1 p2))), .second, .unset, .unset, .unset, .unset, .unset, .unset, .unset] [(.int (0 : Int32))])) _
      refine XS.ifYes X4.here hx rfl (pc0 := 48) (pc' := 61) rfl (hb hby at_48) rfl ((if0 _ _).trans (teq (by decide : (0 : Int32) = (0 : Int32))).1) (by decide) (by decide) ?_
      show Steps p.tables e below (T4.setTop (mkF m 61 #[.val (.int p1), .val (.int p2), .val (.int p3), .val (.int (0 : Int32)), .val (.long (own_lo p1 p2)), .second, .val (.long (own_hi p1 p2)), .second, .val (.double (FP.l2d (own_lo p1 p2))), .second, .unset, .unset, .unset, .unset, .unset, .unset, .unset] [])) _
      refine XS.lload X4.here hx rfl (hb hby at_61) rfl ?_
      show Steps p.tables e below (T4.setTop (mkF m 63 #[.val (.int p1), .val (.int p2), .val (.int p3), .val (.int (0 : Int32)), .val (.long (own_lo p1 p2)), .second, .val (.long (own_hi p1 p2)), .second, .val (.double (FP.l2d (own_lo p1 p2))), .second, .unset, .unset, .unset, .unset, .unset, .unset, .unset] [(.long (own_hi p1 p2))])) _
      refine XS.l2dS X4.here hx rfl (hb hby at_63) rfl rfl ?_
      show Steps p.tables e below (T4.setTop (mkF m 64 #[.val (.int p1), .val (.int p2), .val (.int p3), .val (.int (0 : Int32)), .val (.long (own_lo p1 p2)), .second, .val (.long (own_hi p1 p2)), .second, .val (.double (FP.l2d (own_lo p1 p2))), .second, .unset, .unset, .unset, .unset, .unset, .unset, .unset] [(.double (FP.l2d (own_hi p1 p2)))])) _
      refine XS.dstore X4.here hx rfl (hb hby at_64) rfl (l' := #[.val (.int p1), .val (.int p2), .val (.int p3), .val (.int (0 : Int32)), .val (.long (own_lo p1 p2)), .second, .val (.long (own_hi p1 p2)), .second, .val (.double (FP.l2d (own_lo p1 p2))), .second, .val (.double (FP.l2d (own_hi p1 p2))), .second, .unset, .unset, .unset, .unset, .unset]) rfl ?_
      show Steps p.tables e below (T4.setTop (mkF m 66 #[.val (.int p1), .val (.int p2), .val (.int p3), .val (.int (0 : Int32)), .val (.long (own_lo p1 p2)), .second, .val (.long (own_hi p1 p2)), .second, .val (.double (FP.l2d (own_lo p1 p2))), .second, .val (.double (FP.l2d (own_hi p1 p2))), .second, .unset, .unset, .unset, .unset, .unset] [])) _
      refine st6 _ ?_
      show Steps p.tables e below (T6.setTop (mkF m 69 #[.val (.int p1), .val (.int p2), .val (.int p3), .val (.int (0 : Int32)), .val (.long (own_lo p1 p2)), .second, .val (.long (own_hi p1 p2)), .second, .val (.double (FP.l2d (own_lo p1 p2))), .second, .val (.double (FP.l2d (own_hi p1 p2))), .second, .unset, .unset, .unset, .unset, .unset] [(.ref b6)])) _
      refine XS.dup X6.here hx rfl (hb hby at_69) rfl rfl ?_
      show Steps p.tables e below (T6.setTop (mkF m 70 #[.val (.int p1), .val (.int p2), .val (.int p3), .val (.int (0 : Int32)), .val (.long (own_lo p1 p2)), .second, .val (.long (own_hi p1 p2)), .second, .val (.double (FP.l2d (own_lo p1 p2))), .second, .val (.double (FP.l2d (own_hi p1 p2))), .second, .unset, .unset, .unset, .unset, .unset] [(.ref b6), (.ref b6)])) _
      refine XS.dload X6.here hx rfl (hb hby at_70) rfl ?_
      show Steps p.tables e below (T6.setTop (mkF m 72 #[.val (.int p1), .val (.int p2), .val (.int p3), .val (.int (0 : Int32)), .val (.long (own_lo p1 p2)), .second, .val (.long (own_hi p1 p2)), .second, .val (.double (FP.l2d (own_lo p1 p2))), .second, .val (.double (FP.l2d (own_hi p1 p2))), .second, .unset, .unset, .unset, .unset, .unset] [(.double (FP.l2d (own_lo p1 p2))), (.ref b6), (.ref b6)])) _
      refine XS.dload X6.here hx rfl (hb hby at_72) rfl ?_
      show Steps p.tables e below (T6.setTop (mkF m 74 #[.val (.int p1), .val (.int p2), .val (.int p3), .val (.int (0 : Int32)), .val (.long (own_lo p1 p2)), .second, .val (.long (own_hi p1 p2)), .second, .val (.double (FP.l2d (own_lo p1 p2))), .second, .val (.double (FP.l2d (own_hi p1 p2))), .second, .unset, .unset, .unset, .unset, .unset] [(.double (FP.l2d (own_hi p1 p2))), (.double (FP.l2d (own_lo p1 p2))), (.ref b6), (.ref b6)])) _
      refine st8.trans ?_
      show Steps p.tables e below (T8.setTop (mkF m 77 #[.val (.int p1), .val (.int p2), .val (.int p3), .val (.int (0 : Int32)), .val (.long (own_lo p1 p2)), .second, .val (.long (own_hi p1 p2)), .second, .val (.double (FP.l2d (own_lo p1 p2))), .second, .val (.double (FP.l2d (own_hi p1 p2))), .second, .unset, .unset, .unset, .unset, .unset] [(.ref b6)])) _
      refine XS.astore X8.here hx rfl (hb hby at_77) rfl rfl (l' := #[.val (.int p1), .val (.int p2), .val (.int p3), .val (.int (0 : Int32)), .val (.long (own_lo p1 p2)), .second, .val (.long (own_hi p1 p2)), .second, .val (.double (FP.l2d (own_lo p1 p2))), .second, .val (.double (FP.l2d (own_hi p1 p2))), .second, .val (.ref b6), .unset, .unset, .unset, .unset]) rfl ?_
      show Steps p.tables e below (T8.setTop (mkF m 79 #[.val (.int p1), .val (.int p2), .val (.int p3), .val (.int (0 : Int32)), .val (.long (own_lo p1 p2)), .second, .val (.long (own_hi p1 p2)), .second, .val (.double (FP.l2d (own_lo p1 p2))), .second, .val (.double (FP.l2d (own_hi p1 p2))), .second, .val (.ref b6), .unset, .unset, .unset, .unset] [])) _
      refine XS.aload X8.here hx rfl (hb hby at_79) rfl rfl ?_
      show Steps p.tables e below (T8.setTop (mkF m 81 #[.val (.int p1), .val (.int p2), .val (.int p3), .val (.int (0 : Int32)), .val (.long (own_lo p1 p2)), .second, .val (.long (own_hi p1 p2)), .second, .val (.double (FP.l2d (own_lo p1 p2))), .second, .val (.double (FP.l2d (own_hi p1 p2))), .second, .val (.ref b6), .unset, .unset, .unset, .unset] [(.ref b6)])) _
      refine st14.trans ?_
      show Steps p.tables e below (T14.setTop (mkF m 84 #[.val (.int p1), .val (.int p2), .val (.int p3), .val (.int (0 : Int32)), .val (.long (own_lo p1 p2)), .second, .val (.long (own_hi p1 p2)), .second, .val (.double (FP.l2d (own_lo p1 p2))), .second, .val (.double (FP.l2d (own_hi p1 p2))), .second, .val (.ref b6), .unset, .unset, .unset, .unset] [(.int (own_f6 (FP.l2d (own_lo p1 p2))))])) _
      refine XS.istore X14.here hx rfl (hb hby at_84) rfl (l' := #[.val (.int p1), .val (.int p2), .val (.int p3), .val (.int (0 : Int32)), .val (.long (own_lo p1 p2)), .second, .val (.long (own_hi p1 p2)), .second, .val (.double (FP.l2d (own_lo p1 p2))), .second, .val (.double (FP.l2d (own_hi p1 p2))), .second, .val (.ref b6), .val (.int (own_f6 (FP.l2d (own_lo p1 p2)))), .unset, .unset, .unset]) rfl ?_
      show Steps p.tables e below (T14.setTop (mkF m 86 #[.val (.int p1), .val (.int p2), .val (.int p3), .val (.int (0 : Int32)), .val (.long (own_lo p1 p2)), .second, .val (.long (own_hi p1 p2)), .second, .val (.double (FP.l2d (own_lo p1 p2))), .second, .val (.double (FP.l2d (own_hi p1 p2))), .second, .val (.ref b6), .val (.int (own_f6 (FP.l2d (own_lo p1 p2)))), .unset, .unset, .unset] [])) _
      refine XS.iloadN X14.here hx rfl (hb hby at_86) rfl ?_
      show Steps p.tables e below (T14.setTop (mkF m 87 #[.val (.int p1), .val (.int p2), .val (.int p3), .val (.int (0 : Int32)), .val (.long (own_lo p1 p2)), .second, .val (.long (own_hi p1 p2)), .second, .val (.double (FP.l2d (own_lo p1 p2))), .second, .val (.double (FP.l2d (own_hi p1 p2))), .second, .val (.ref b6), .val (.int (own_f6 (FP.l2d (own_lo p1 p2)))), .unset, .unset, .unset] [(.int (0 : Int32))])) _
      refine XS.ifYes X14.here hx rfl (pc0 := 87) (pc' := 107) rfl (hb hby at_87) rfl ((if0 _ _).trans (teq (by decide : (0 : Int32) = (0 : Int32))).1) (by decide) (by decide) ?_
      show Steps p.tables e below (T14.setTop (mkF m 107 #[.val (.int p1), .val (.int p2), .val (.int p3), .val (.int (0 : Int32)), .val (.long (own_lo p1 p2)), .second, .val (.long (own_hi p1 p2)), .second, .val (.double (FP.l2d (own_lo p1 p2))), .second, .val (.double (FP.l2d (own_hi p1 p2))), .second, .val (.ref b6), .val (.int (own_f6 (FP.l2d (own_lo p1 p2)))), .unset, .unset, .unset] [])) _
      refine XS.lload X14.here hx rfl (hb hby at_107) rfl ?_
      show Steps p.tables e below (T14.setTop (mkF m 109 #[.val (.int p1), .val (.int p2), .val (.int p3), .val (.int (0 : Int32)), .val (.long (own_lo p1 p2)), .second, .val (.long (own_hi p1 p2)), .second, .val (.double (FP.l2d (own_lo p1 p2))), .second, .val (.double (FP.l2d (own_hi p1 p2))), .second, .val (.ref b6), .val (.int (own_f6 (FP.l2d (own_lo p1 p2)))), .unset, .unset, .unset] [(.long (own_lo p1 p2))])) _
      refine XS.lconst X14.here hx rfl (hb hby at_109) ?_
      show Steps p.tables e below (T14.setTop (mkF m 110 #[.val (.int p1), .val (.int p2), .val (.int p3), .val (.int (0 : Int32)), .val (.long (own_lo p1 p2)), .second, .val (.long (own_hi p1 p2)), .second, .val (.double (FP.l2d (own_lo p1 p2))), .second, .val (.double (FP.l2d (own_hi p1 p2))), .second, .val (.ref b6), .val (.int (own_f6 (FP.l2d (own_lo p1 p2)))), .unset, .unset, .unset] [(.long (0 : Int64)), (.long (own_lo p1 p2))])) _
      refine XS.lcmp X14.here hx rfl (hb hby at_110) rfl ?_
      exact kt
    by_cases hc2 : (0 : Int32) < (lcmpW (own_lo p1 p2) (0 : Int64))
    ·
      have k17 : ∀ t, Steps p.tables e below (T14.setTop (mkF m 125 #[.val (.int p1), .val (.int p2), .val (.int p3), .val (.int (0 : Int32)), .val (.long (own_lo p1 p2)), .second, .val (.long (own_hi p1 p2)), .second, .val (.double (FP.l2d (own_lo p1 p2))), .second, .val (.double (FP.l2d (own_hi p1 p2))), .second, .val (.ref b6), .val (.int (own_f6 (FP.l2d (own_lo p1 p2)))), .val (.int (0 : Int32)), .unset, .unset] [(.int (0 : Int32)), (.int (own_f6 (FP.l2d (own_lo p1 p2))))])) t → Steps p.tables e below (s₁.setTop (entryFrame m #[(.int p1), (.int p2), (.int p3)] maxLocals)) t := by
        intro t kt
        refine k16 t ?_
        show Steps p.tables e below (T14.setTop (mkF m 111 #[.val (.int p1), .val (.int p2), .val (.int p3), .val (.int (0 : Int32)), .val (.long (own_lo p1 p2)), .second, .val (.long (own_hi p1 p2)), .second, .val (.double (FP.l2d (own_lo p1 p2))), .second, .val (.double (FP.l2d (own_hi p1 p2))), .second, .val (.ref b6), .val (.int (own_f6 (FP.l2d (own_lo p1 p2)))), .unset, .unset, .unset] [(.int (lcmpW (own_lo p1 p2) (0 : Int64)))])) _
        refine XS.ifYes X14.here hx rfl (pc0 := 111) (pc' := 118) rfl (hb hby at_111) rfl ((if0 _ _).trans (tlt hc2).2.2.1) (by decide) (by decide) ?_
        show Steps p.tables e below (T14.setTop (mkF m 118 #[.val (.int p1), .val (.int p2), .val (.int p3), .val (.int (0 : Int32)), .val (.long (own_lo p1 p2)), .second, .val (.long (own_hi p1 p2)), .second, .val (.double (FP.l2d (own_lo p1 p2))), .second, .val (.double (FP.l2d (own_hi p1 p2))), .second, .val (.ref b6), .val (.int (own_f6 (FP.l2d (own_lo p1 p2)))), .unset, .unset, .unset] [])) _
        refine XS.iconst X14.here hx rfl (hb hby at_118) ?_
        show Steps p.tables e below (T14.setTop (mkF m 119 #[.val (.int p1), .val (.int p2), .val (.int p3), .val (.int (0 : Int32)), .val (.long (own_lo p1 p2)), .second, .val (.long (own_hi p1 p2)), .second, .val (.double (FP.l2d (own_lo p1 p2))), .second, .val (.double (FP.l2d (own_hi p1 p2))), .second, .val (.ref b6), .val (.int (own_f6 (FP.l2d (own_lo p1 p2)))), .unset, .unset, .unset] [(.int (0 : Int32))])) _
        refine XS.istore X14.here hx rfl (hb hby at_119) rfl (l' := #[.val (.int p1), .val (.int p2), .val (.int p3), .val (.int (0 : Int32)), .val (.long (own_lo p1 p2)), .second, .val (.long (own_hi p1 p2)), .second, .val (.double (FP.l2d (own_lo p1 p2))), .second, .val (.double (FP.l2d (own_hi p1 p2))), .second, .val (.ref b6), .val (.int (own_f6 (FP.l2d (own_lo p1 p2)))), .val (.int (0 : Int32)), .unset, .unset]) rfl ?_
        show Steps p.tables e below (T14.setTop (mkF m 121 #[.val (.int p1), .val (.int p2), .val (.int p3), .val (.int (0 : Int32)), .val (.long (own_lo p1 p2)), .second, .val (.long (own_hi p1 p2)), .second, .val (.double (FP.l2d (own_lo p1 p2))), .second, .val (.double (FP.l2d (own_hi p1 p2))), .second, .val (.ref b6), .val (.int (own_f6 (FP.l2d (own_lo p1 p2)))), .val (.int (0 : Int32)), .unset, .unset] [])) _
        refine XS.iload X14.here hx rfl (hb hby at_121) rfl ?_
        show Steps p.tables e below (T14.setTop (mkF m 123 #[.val (.int p1), .val (.int p2), .val (.int p3), .val (.int (0 : Int32)), .val (.long (own_lo p1 p2)), .second, .val (.long (own_hi p1 p2)), .second, .val (.double (FP.l2d (own_lo p1 p2))), .second, .val (.double (FP.l2d (own_hi p1 p2))), .second, .val (.ref b6), .val (.int (own_f6 (FP.l2d (own_lo p1 p2)))), .val (.int (0 : Int32)), .unset, .unset] [(.int (own_f6 (FP.l2d (own_lo p1 p2))))])) _
        refine XS.iload X14.here hx rfl (hb hby at_123) rfl ?_
        exact kt
      by_cases hc3 : (own_f6 (FP.l2d (own_lo p1 p2))) = (0 : Int32)
      ·
        obtain ⟨T18, h18, X18, e18, E18, A18, D18, -, st18⟩ := newO X14 hx hZ hown (hw _ (List.mem_of_getElem? (i := 7) rfl)) (hw _ (List.mem_of_getElem? (i := 8) rfl)) (hw _ (List.mem_of_getElem? (i := 9) rfl)) e14 (g := (mkF m 139 #[.val (.int p1), .val (.int p2), .val (.int p3), .val (.int (0 : Int32)), .val (.long (own_lo p1 p2)), .second, .val (.long (own_hi p1 p2)), .second, .val (.double (FP.l2d (own_lo p1 p2))), .second, .val (.double (FP.l2d (own_hi p1 p2))), .second, .val (.ref b6), .val (.int (own_f6 (FP.l2d (own_lo p1 p2)))), .val (.int (0 : Int32)), .val (.int (1 : Int32)), .unset] [])) rfl (hb hby at_139) (by decide) (by decide)
        obtain ⟨b18, g18⟩ : ∃ z, z = T8.heap.size := ⟨_, rfl⟩
        rw [← g18] at A18 D18 st18
        have ne_b6_b18 : b6 ≠ b18 := Nat.ne_of_lt (Nat.lt_of_lt_of_le Q8_0.lt (Nat.le_of_eq g18.symm))
        have g_b18 : n0 ≤ b18 := Nat.le_trans Z12 (Nat.le_of_eq g18.symm)
        have f19 := Q8_0.ext E18
        have f20 := Q8_1.ext E18
        have f21 := Q8_2.ext E18
        have Z22 := Nat.le_trans Z12 E18.1
        have F_low_b18 : Fld Z h18 b18 "com/example/edgbaston/edgbaston/model/Interval" "low" "D" (.double (0 : UInt64)) := D18 (Or.inr (hw _ (List.mem_of_getElem? (i := 22) rfl))) (ty := .double) (by decide)
        have F_high_b18 : Fld Z h18 b18 "com/example/edgbaston/edgbaston/model/Interval" "high" "D" (.double (0 : UInt64)) := D18 (Or.inr (hw _ (List.mem_of_getElem? (i := 24) rfl))) (ty := .double) (by decide)
        obtain ⟨v23, _, ⟨T23, L23, k23, n23⟩, -, X23, ⟨Lc23, hQ23, l23, y23, z23⟩, st23⟩ := X18.specialBack hx (y := (⟨"com/example/edgbaston/edgbaston/model/Interval", "<init>", "(DD)V"⟩ : MethodName)) rfl hown (mvT hZ (hw _ (List.mem_of_getElem? (i := 10) rfl))) (mvT hZ (hw _ (List.mem_of_getElem? (i := 11) rfl))) (mvT hZ (hw _ (List.mem_of_getElem? (i := 12) rfl))) (by decide) (backOf (W := 1) (own_rm3 l Z a0 hw [] b18 (FP.dsub FP.dconst1 (FP.l2d (own_hi p1 p2))) (FP.dsub FP.dconst1 (FP.l2d (own_lo p1 p2))) (0 : UInt64) (0 : UInt64) h18 n0 Z22 A18 F_low_b18 g_b18 F_high_b18) hZ (hw _ (List.mem_of_getElem? (i := 12) rfl)) (hw _ (List.mem_of_getElem? (i := 9) rfl)) (by decide) (by decide)) (g := (mkF m 151 #[.val (.int p1), .val (.int p2), .val (.int p3), .val (.int (0 : Int32)), .val (.long (own_lo p1 p2)), .second, .val (.long (own_hi p1 p2)), .second, .val (.double (FP.l2d (own_lo p1 p2))), .second, .val (.double (FP.l2d (own_hi p1 p2))), .second, .val (.ref b6), .val (.int (own_f6 (FP.l2d (own_lo p1 p2)))), .val (.int (0 : Int32)), .val (.int (1 : Int32)), .unset] [(.double (FP.dsub FP.dconst1 (FP.l2d (own_lo p1 p2)))), (.double (FP.dsub FP.dconst1 (FP.l2d (own_hi p1 p2)))), (.ref b18), (.ref b18)])) rfl (by rw [hml]; rfl) (Steps.refl _) (a := b18) (argsL := [(.double (FP.dsub FP.dconst1 (FP.l2d (own_hi p1 p2)))), (.double (FP.dsub FP.dconst1 (FP.l2d (own_lo p1 p2))))]) (rest := [(.ref b18)]) (lenOf own_pd52 rfl) rfl (by show 2 * 0 + _ ≤ _; exact Nat.le_of_eq rfl) (hb hby at_151) (fun _ _ => ⟨rfl, e18, (by decide : 2 + 0 ≤ _), (by decide : 4 + 0 ≤ _)⟩)
        dsimp only [Pt.U, Pt.locs, Pt.cells, Pt.slots] at X23 l23 y23 z23 st23 hQ23
        subst l23 y23 z23
        obtain ⟨rfl, N23q, K23, Q23_0, Q23_1, Q23_2⟩ := hQ23
        have f24 := f19.keep K23
        have f25 := f20.keep K23 (ninS ne_b6_b18 nin0)
        have f26 := f21.keep K23 (ninS ne_b6_b18 nin0)
        have f27 := A18.keep K23
        have Z30 := Nat.le_trans Z22 K23.1
        have N31 := Fr.app N15 N23q
        obtain ⟨cq32, kq32, q32a, q32b, q32c⟩ := isOf hZ rfl Q23_0
        obtain ⟨v32, _, ⟨T32, L32, k32, n32⟩, -, X32, ⟨Lc32, hQ32, l32, y32, z32⟩, st32⟩ := X23.virtualBack hx (y := (⟨"com/example/edgbaston/edgbaston/model/Interval", "canBeTrue", "()Z"⟩ : MethodName)) (z := (⟨"com/example/edgbaston/edgbaston/model/Interval", "canBeTrue", "()Z"⟩ : MethodName)) hown (mvT hZ (hw _ (List.mem_of_getElem? (i := 30) rfl))) (mvT hZ (hw _ (List.mem_of_getElem? (i := 31) rfl))) (notFace_of_selects (args := #[]) (mvT hZ (hw _ (List.mem_of_getElem? (i := 33) rfl)))) (mvT hZ (hw _ (List.mem_of_getElem? (i := 33) rfl))) (mvT hZ (hw _ (List.mem_of_getElem? (i := 32) rfl))) (by decide) (backOf (W := 1) (own_rm7 l Z a0 hw [] b18 (FP.dsub FP.dconst1 (FP.l2d (own_lo p1 p2))) T23.heap n0 Z30 Q23_2) hZ (hw _ (List.mem_of_getElem? (i := 34) rfl)) (hw _ (List.mem_of_getElem? (i := 9) rfl)) (by decide) (by decide)) q32a q32c (g := (mkF m 165 #[.val (.int p1), .val (.int p2), .val (.int p3), .val (.int (0 : Int32)), .val (.long (own_lo p1 p2)), .second, .val (.long (own_hi p1 p2)), .second, .val (.double (FP.l2d (own_lo p1 p2))), .second, .val (.double (FP.l2d (own_hi p1 p2))), .second, .val (.ref b6), .val (.int (own_f6 (FP.l2d (own_lo p1 p2)))), .val (.int (0 : Int32)), .val (.int (1 : Int32)), .val (.ref b18)] [(.ref b18), (.int (own_f6 (FP.l2d (own_lo p1 p2))))])) rfl (by rw [hml]; rfl) (Steps.refl _) (argsL := []) (rest := [(.int (own_f6 (FP.l2d (own_lo p1 p2))))]) (lenOf own_pd53 rfl) rfl (by show 2 * 0 + _ ≤ _; exact Nat.le_of_eq rfl) (hb hby at_165) (fun _ _ => ⟨rfl, rfl, (by decide : 2 + 0 ≤ _), (by decide : 4 + 0 ≤ _)⟩)
        dsimp only [Pt.U, Pt.locs, Pt.cells, Pt.slots] at X32 l32 y32 z32 st32 hQ32
        subst l32 y32 z32
        obtain ⟨rfl, N32q, e32⟩ := hQ32
        have N33 := Fr.app N31 N32q
        have k34 : ∀ t, Steps p.tables e below (T32.setTop (mkF m 168 #[.val (.int p1), .val (.int p2), .val (.int p3), .val (.int (0 : Int32)), .val (.long (own_lo p1 p2)), .second, .val (.long (own_hi p1 p2)), .second, .val (.double (FP.l2d (own_lo p1 p2))), .second, .val (.double (FP.l2d (own_hi p1 p2))), .second, .val (.ref b6), .val (.int (own_f6 (FP.l2d (own_lo p1 p2)))), .val (.int (0 : Int32)), .val (.int (1 : Int32)), .val (.ref b18)] [(.int (own_f7 (FP.dsub FP.dconst1 (FP.l2d (own_lo p1 p2))))), (.int (own_f6 (FP.l2d (own_lo p1 p2))))])) t → Steps p.tables e below (s₁.setTop (entryFrame m #[(.int p1), (.int p2), (.int p3)] maxLocals)) t := by
          intro t kt
          refine k17 t ?_
          show Steps p.tables e below (T14.setTop (mkF m 125 #[.val (.int p1), .val (.int p2), .val (.int p3), .val (.int (0 : Int32)), .val (.long (own_lo p1 p2)), .second, .val (.long (own_hi p1 p2)), .second, .val (.double (FP.l2d (own_lo p1 p2))), .second, .val (.double (FP.l2d (own_hi p1 p2))), .second, .val (.ref b6), .val (.int (own_f6 (FP.l2d (own_lo p1 p2)))), .val (.int (0 : Int32)), .unset, .unset] [(.int (0 : Int32)), (.int (own_f6 (FP.l2d (own_lo p1 p2))))])) _
          refine XS.icmpNo X14.here hx rfl (hb hby at_125) rfl (teq hc3).2 ?_
          show Steps p.tables e below (T14.setTop (mkF m 128 #[.val (.int p1), .val (.int p2), .val (.int p3), .val (.int (0 : Int32)), .val (.long (own_lo p1 p2)), .second, .val (.long (own_hi p1 p2)), .second, .val (.double (FP.l2d (own_lo p1 p2))), .second, .val (.double (FP.l2d (own_hi p1 p2))), .second, .val (.ref b6), .val (.int (own_f6 (FP.l2d (own_lo p1 p2)))), .val (.int (0 : Int32)), .unset, .unset] [])) _
          refine XS.iconst X14.here hx rfl (hb hby at_128) ?_
          show Steps p.tables e below (T14.setTop (mkF m 129 #[.val (.int p1), .val (.int p2), .val (.int p3), .val (.int (0 : Int32)), .val (.long (own_lo p1 p2)), .second, .val (.long (own_hi p1 p2)), .second, .val (.double (FP.l2d (own_lo p1 p2))), .second, .val (.double (FP.l2d (own_hi p1 p2))), .second, .val (.ref b6), .val (.int (own_f6 (FP.l2d (own_lo p1 p2)))), .val (.int (0 : Int32)), .unset, .unset] [(.int (1 : Int32))])) _
          refine XS.goto X14.here hx rfl (pc0 := 129) (pc' := 133) rfl (hb hby at_129) (by decide) (by decide) ?_
          show Steps p.tables e below (T14.setTop (mkF m 133 #[.val (.int p1), .val (.int p2), .val (.int p3), .val (.int (0 : Int32)), .val (.long (own_lo p1 p2)), .second, .val (.long (own_hi p1 p2)), .second, .val (.double (FP.l2d (own_lo p1 p2))), .second, .val (.double (FP.l2d (own_hi p1 p2))), .second, .val (.ref b6), .val (.int (own_f6 (FP.l2d (own_lo p1 p2)))), .val (.int (0 : Int32)), .unset, .unset] [(.int (1 : Int32))])) _
          refine XS.istore X14.here hx rfl (hb hby at_133) rfl (l' := #[.val (.int p1), .val (.int p2), .val (.int p3), .val (.int (0 : Int32)), .val (.long (own_lo p1 p2)), .second, .val (.long (own_hi p1 p2)), .second, .val (.double (FP.l2d (own_lo p1 p2))), .second, .val (.double (FP.l2d (own_hi p1 p2))), .second, .val (.ref b6), .val (.int (own_f6 (FP.l2d (own_lo p1 p2)))), .val (.int (0 : Int32)), .val (.int (1 : Int32)), .unset]) rfl ?_
          show Steps p.tables e below (T14.setTop (mkF m 135 #[.val (.int p1), .val (.int p2), .val (.int p3), .val (.int (0 : Int32)), .val (.long (own_lo p1 p2)), .second, .val (.long (own_hi p1 p2)), .second, .val (.double (FP.l2d (own_lo p1 p2))), .second, .val (.double (FP.l2d (own_hi p1 p2))), .second, .val (.ref b6), .val (.int (own_f6 (FP.l2d (own_lo p1 p2)))), .val (.int (0 : Int32)), .val (.int (1 : Int32)), .unset] [])) _
          refine XS.iloadN X14.here hx rfl (hb hby at_135) rfl ?_
          show Steps p.tables e below (T14.setTop (mkF m 136 #[.val (.int p1), .val (.int p2), .val (.int p3), .val (.int (0 : Int32)), .val (.long (own_lo p1 p2)), .second, .val (.long (own_hi p1 p2)), .second, .val (.double (FP.l2d (own_lo p1 p2))), .second, .val (.double (FP.l2d (own_hi p1 p2))), .second, .val (.ref b6), .val (.int (own_f6 (FP.l2d (own_lo p1 p2)))), .val (.int (0 : Int32)), .val (.int (1 : Int32)), .unset] [(.int (0 : Int32))])) _
          refine XS.ifNo X14.here hx rfl (hb hby at_136) rfl ((if0 _ _).trans (teq (by decide : (0 : Int32) = (0 : Int32))).2) ?_
          show Steps p.tables e below (T14.setTop (mkF m 139 #[.val (.int p1), .val (.int p2), .val (.int p3), .val (.int (0 : Int32)), .val (.long (own_lo p1 p2)), .second, .val (.long (own_hi p1 p2)), .second, .val (.double (FP.l2d (own_lo p1 p2))), .second, .val (.double (FP.l2d (own_hi p1 p2))), .second, .val (.ref b6), .val (.int (own_f6 (FP.l2d (own_lo p1 p2)))), .val (.int (0 : Int32)), .val (.int (1 : Int32)), .unset] [])) _
          refine st18 _ ?_
          show Steps p.tables e below (T18.setTop (mkF m 142 #[.val (.int p1), .val (.int p2), .val (.int p3), .val (.int (0 : Int32)), .val (.long (own_lo p1 p2)), .second, .val (.long (own_hi p1 p2)), .second, .val (.double (FP.l2d (own_lo p1 p2))), .second, .val (.double (FP.l2d (own_hi p1 p2))), .second, .val (.ref b6), .val (.int (own_f6 (FP.l2d (own_lo p1 p2)))), .val (.int (0 : Int32)), .val (.int (1 : Int32)), .unset] [(.ref b18)])) _
          refine XS.dup X18.here hx rfl (hb hby at_142) rfl rfl ?_
          show Steps p.tables e below (T18.setTop (mkF m 143 #[.val (.int p1), .val (.int p2), .val (.int p3), .val (.int (0 : Int32)), .val (.long (own_lo p1 p2)), .second, .val (.long (own_hi p1 p2)), .second, .val (.double (FP.l2d (own_lo p1 p2))), .second, .val (.double (FP.l2d (own_hi p1 p2))), .second, .val (.ref b6), .val (.int (own_f6 (FP.l2d (own_lo p1 p2)))), .val (.int (0 : Int32)), .val (.int (1 : Int32)), .unset] [(.ref b18), (.ref b18)])) _
          refine XS.dconst1 X18.here hx rfl (hb hby at_143) rfl ?_
          show Steps p.tables e below (T18.setTop (mkF m 144 #[.val (.int p1), .val (.int p2), .val (.int p3), .val (.int (0 : Int32)), .val (.long (own_lo p1 p2)), .second, .val (.long (own_hi p1 p2)), .second, .val (.double (FP.l2d (own_lo p1 p2))), .second, .val (.double (FP.l2d (own_hi p1 p2))), .second, .val (.ref b6), .val (.int (own_f6 (FP.l2d (own_lo p1 p2)))), .val (.int (0 : Int32)), .val (.int (1 : Int32)), .unset] [(.double FP.dconst1), (.ref b18), (.ref b18)])) _
          refine XS.dload X18.here hx rfl (hb hby at_144) rfl ?_
          show Steps p.tables e below (T18.setTop (mkF m 146 #[.val (.int p1), .val (.int p2), .val (.int p3), .val (.int (0 : Int32)), .val (.long (own_lo p1 p2)), .second, .val (.long (own_hi p1 p2)), .second, .val (.double (FP.l2d (own_lo p1 p2))), .second, .val (.double (FP.l2d (own_hi p1 p2))), .second, .val (.ref b6), .val (.int (own_f6 (FP.l2d (own_lo p1 p2)))), .val (.int (0 : Int32)), .val (.int (1 : Int32)), .unset] [(.double (FP.l2d (own_hi p1 p2))), (.double FP.dconst1), (.ref b18), (.ref b18)])) _
          refine XS.dsubS X18.here hx rfl (hb hby at_146) rfl (own_nan_dsub _) rfl ?_
          show Steps p.tables e below (T18.setTop (mkF m 147 #[.val (.int p1), .val (.int p2), .val (.int p3), .val (.int (0 : Int32)), .val (.long (own_lo p1 p2)), .second, .val (.long (own_hi p1 p2)), .second, .val (.double (FP.l2d (own_lo p1 p2))), .second, .val (.double (FP.l2d (own_hi p1 p2))), .second, .val (.ref b6), .val (.int (own_f6 (FP.l2d (own_lo p1 p2)))), .val (.int (0 : Int32)), .val (.int (1 : Int32)), .unset] [(.double (FP.dsub FP.dconst1 (FP.l2d (own_hi p1 p2)))), (.ref b18), (.ref b18)])) _
          refine XS.dconst1 X18.here hx rfl (hb hby at_147) rfl ?_
          show Steps p.tables e below (T18.setTop (mkF m 148 #[.val (.int p1), .val (.int p2), .val (.int p3), .val (.int (0 : Int32)), .val (.long (own_lo p1 p2)), .second, .val (.long (own_hi p1 p2)), .second, .val (.double (FP.l2d (own_lo p1 p2))), .second, .val (.double (FP.l2d (own_hi p1 p2))), .second, .val (.ref b6), .val (.int (own_f6 (FP.l2d (own_lo p1 p2)))), .val (.int (0 : Int32)), .val (.int (1 : Int32)), .unset] [(.double FP.dconst1), (.double (FP.dsub FP.dconst1 (FP.l2d (own_hi p1 p2)))), (.ref b18), (.ref b18)])) _
          refine XS.dload X18.here hx rfl (hb hby at_148) rfl ?_
          show Steps p.tables e below (T18.setTop (mkF m 150 #[.val (.int p1), .val (.int p2), .val (.int p3), .val (.int (0 : Int32)), .val (.long (own_lo p1 p2)), .second, .val (.long (own_hi p1 p2)), .second, .val (.double (FP.l2d (own_lo p1 p2))), .second, .val (.double (FP.l2d (own_hi p1 p2))), .second, .val (.ref b6), .val (.int (own_f6 (FP.l2d (own_lo p1 p2)))), .val (.int (0 : Int32)), .val (.int (1 : Int32)), .unset] [(.double (FP.l2d (own_lo p1 p2))), (.double FP.dconst1), (.double (FP.dsub FP.dconst1 (FP.l2d (own_hi p1 p2)))), (.ref b18), (.ref b18)])) _
          refine XS.dsubS X18.here hx rfl (hb hby at_150) rfl (own_nan_dsub _) rfl ?_
          show Steps p.tables e below (T18.setTop (mkF m 151 #[.val (.int p1), .val (.int p2), .val (.int p3), .val (.int (0 : Int32)), .val (.long (own_lo p1 p2)), .second, .val (.long (own_hi p1 p2)), .second, .val (.double (FP.l2d (own_lo p1 p2))), .second, .val (.double (FP.l2d (own_hi p1 p2))), .second, .val (.ref b6), .val (.int (own_f6 (FP.l2d (own_lo p1 p2)))), .val (.int (0 : Int32)), .val (.int (1 : Int32)), .unset] [(.double (FP.dsub FP.dconst1 (FP.l2d (own_lo p1 p2)))), (.double (FP.dsub FP.dconst1 (FP.l2d (own_hi p1 p2)))), (.ref b18), (.ref b18)])) _
          refine st23.trans ?_
          show Steps p.tables e below (T23.setTop (mkF m 154 #[.val (.int p1), .val (.int p2), .val (.int p3), .val (.int (0 : Int32)), .val (.long (own_lo p1 p2)), .second, .val (.long (own_hi p1 p2)), .second, .val (.double (FP.l2d (own_lo p1 p2))), .second, .val (.double (FP.l2d (own_hi p1 p2))), .second, .val (.ref b6), .val (.int (own_f6 (FP.l2d (own_lo p1 p2)))), .val (.int (0 : Int32)), .val (.int (1 : Int32)), .unset] [(.ref b18)])) _
          refine XS.astore X23.here hx rfl (hb hby at_154) rfl rfl (l' := #[.val (.int p1), .val (.int p2), .val (.int p3), .val (.int (0 : Int32)), .val (.long (own_lo p1 p2)), .second, .val (.long (own_hi p1 p2)), .second, .val (.double (FP.l2d (own_lo p1 p2))), .second, .val (.double (FP.l2d (own_hi p1 p2))), .second, .val (.ref b6), .val (.int (own_f6 (FP.l2d (own_lo p1 p2)))), .val (.int (0 : Int32)), .val (.int (1 : Int32)), .val (.ref b18)]) rfl ?_
          show Steps p.tables e below (T23.setTop (mkF m 156 #[.val (.int p1), .val (.int p2), .val (.int p3), .val (.int (0 : Int32)), .val (.long (own_lo p1 p2)), .second, .val (.long (own_hi p1 p2)), .second, .val (.double (FP.l2d (own_lo p1 p2))), .second, .val (.double (FP.l2d (own_hi p1 p2))), .second, .val (.ref b6), .val (.int (own_f6 (FP.l2d (own_lo p1 p2)))), .val (.int (0 : Int32)), .val (.int (1 : Int32)), .val (.ref b18)] [])) _
          refine XS.iload X23.here hx rfl (hb hby at_156) rfl ?_
          show Steps p.tables e below (T23.setTop (mkF m 158 #[.val (.int p1), .val (.int p2), .val (.int p3), .val (.int (0 : Int32)), .val (.long (own_lo p1 p2)), .second, .val (.long (own_hi p1 p2)), .second, .val (.double (FP.l2d (own_lo p1 p2))), .second, .val (.double (FP.l2d (own_hi p1 p2))), .second, .val (.ref b6), .val (.int (own_f6 (FP.l2d (own_lo p1 p2)))), .val (.int (0 : Int32)), .val (.int (1 : Int32)), .val (.ref b18)] [(.int (1 : Int32))])) _
          refine XS.ifNo X23.here hx rfl (hb hby at_158) rfl ((if0 _ _).trans (feq (by decide : ¬ ((1 : Int32) = (0 : Int32)))).1) ?_
          show Steps p.tables e below (T23.setTop (mkF m 161 #[.val (.int p1), .val (.int p2), .val (.int p3), .val (.int (0 : Int32)), .val (.long (own_lo p1 p2)), .second, .val (.long (own_hi p1 p2)), .second, .val (.double (FP.l2d (own_lo p1 p2))), .second, .val (.double (FP.l2d (own_hi p1 p2))), .second, .val (.ref b6), .val (.int (own_f6 (FP.l2d (own_lo p1 p2)))), .val (.int (0 : Int32)), .val (.int (1 : Int32)), .val (.ref b18)] [])) _
          refine XS.iload X23.here hx rfl (hb hby at_161) rfl ?_
          show Steps p.tables e below (T23.setTop (mkF m 163 #[.val (.int p1), .val (.int p2), .val (.int p3), .val (.int (0 : Int32)), .val (.long (own_lo p1 p2)), .second, .val (.long (own_hi p1 p2)), .second, .val (.double (FP.l2d (own_lo p1 p2))), .second, .val (.double (FP.l2d (own_hi p1 p2))), .second, .val (.ref b6), .val (.int (own_f6 (FP.l2d (own_lo p1 p2)))), .val (.int (0 : Int32)), .val (.int (1 : Int32)), .val (.ref b18)] [(.int (own_f6 (FP.l2d (own_lo p1 p2))))])) _
          refine XS.aload X23.here hx rfl (hb hby at_163) rfl rfl ?_
          show Steps p.tables e below (T23.setTop (mkF m 165 #[.val (.int p1), .val (.int p2), .val (.int p3), .val (.int (0 : Int32)), .val (.long (own_lo p1 p2)), .second, .val (.long (own_hi p1 p2)), .second, .val (.double (FP.l2d (own_lo p1 p2))), .second, .val (.double (FP.l2d (own_hi p1 p2))), .second, .val (.ref b6), .val (.int (own_f6 (FP.l2d (own_lo p1 p2)))), .val (.int (0 : Int32)), .val (.int (1 : Int32)), .val (.ref b18)] [(.ref b18), (.int (own_f6 (FP.l2d (own_lo p1 p2))))])) _
          refine st32.trans ?_
          exact kt
        by_cases hc4 : (own_f6 (FP.l2d (own_lo p1 p2))) = (own_f7 (FP.dsub FP.dconst1 (FP.l2d (own_lo p1 p2))))
        ·
          obtain ⟨fs, hr, hrun, hended, hW, hsame⟩ := X32.leave (hlocks := hlk) (v := some (.int (1 : Int32))) (fun h => by rw [Bd.returns] at h; cases h)
          refine ⟨_, _, k34 _ ?_, hrun, hended, _, _, rfl, ?_, ⟨_, rfl⟩, hW, hsame.mono (by decide) (by decide)⟩
          · show Steps p.tables e below (T32.setTop (mkF m 168 #[.val (.int p1), .val (.int p2), .val (.int p3), .val (.int (0 : Int32)), .val (.long (own_lo p1 p2)), .second, .val (.long (own_hi p1 p2)), .second, .val (.double (FP.l2d (own_lo p1 p2))), .second, .val (.double (FP.l2d (own_hi p1 p2))), .second, .val (.ref b6), .val (.int (own_f6 (FP.l2d (own_lo p1 p2)))), .val (.int (0 : Int32)), .val (.int (1 : Int32)), .val (.ref b18)] [(.int (own_f7 (FP.dsub FP.dconst1 (FP.l2d (own_lo p1 p2))))), (.int (own_f6 (FP.l2d (own_lo p1 p2))))])) _
            refine XS.icmpNo X32.here hx rfl (hb hby at_168) rfl (teq hc4).2 ?_
            show Steps p.tables e below (T32.setTop (mkF m 171 #[.val (.int p1), .val (.int p2), .val (.int p3), .val (.int (0 : Int32)), .val (.long (own_lo p1 p2)), .second, .val (.long (own_hi p1 p2)), .second, .val (.double (FP.l2d (own_lo p1 p2))), .second, .val (.double (FP.l2d (own_hi p1 p2))), .second, .val (.ref b6), .val (.int (own_f6 (FP.l2d (own_lo p1 p2)))), .val (.int (0 : Int32)), .val (.int (1 : Int32)), .val (.ref b18)] [])) _
            refine XS.iconst X32.here hx rfl (hb hby at_171) ?_
            show Steps p.tables e below (T32.setTop (mkF m 172 #[.val (.int p1), .val (.int p2), .val (.int p3), .val (.int (0 : Int32)), .val (.long (own_lo p1 p2)), .second, .val (.long (own_hi p1 p2)), .second, .val (.double (FP.l2d (own_lo p1 p2))), .second, .val (.double (FP.l2d (own_hi p1 p2))), .second, .val (.ref b6), .val (.int (own_f6 (FP.l2d (own_lo p1 p2)))), .val (.int (0 : Int32)), .val (.int (1 : Int32)), .val (.ref b18)] [(.int (1 : Int32))])) _
            refine XS.goto X32.here hx rfl (pc0 := 172) (pc' := 176) rfl (hb hby at_172) (by decide) (by decide) ?_
            show Steps p.tables e below (T32.setTop (mkF m 176 #[.val (.int p1), .val (.int p2), .val (.int p3), .val (.int (0 : Int32)), .val (.long (own_lo p1 p2)), .second, .val (.long (own_hi p1 p2)), .second, .val (.double (FP.l2d (own_lo p1 p2))), .second, .val (.double (FP.l2d (own_hi p1 p2))), .second, .val (.ref b6), .val (.int (own_f6 (FP.l2d (own_lo p1 p2)))), .val (.int (0 : Int32)), .val (.int (1 : Int32)), .val (.ref b18)] [(.int (1 : Int32))])) _
            refine XS.istore X32.here hx rfl (hb hby at_176) rfl (l' := #[.val (.int p1), .val (.int p2), .val (.int p3), .val (.int (0 : Int32)), .val (.long (own_lo p1 p2)), .second, .val (.long (own_hi p1 p2)), .second, .val (.double (FP.l2d (own_lo p1 p2))), .second, .val (.double (FP.l2d (own_hi p1 p2))), .second, .val (.ref b6), .val (.int (own_f6 (FP.l2d (own_lo p1 p2)))), .val (.int (0 : Int32)), .val (.int (1 : Int32)), .val (.ref b18)]) rfl ?_
            show Steps p.tables e below (T32.setTop (mkF m 178 #[.val (.int p1), .val (.int p2), .val (.int p3), .val (.int (0 : Int32)), .val (.long (own_lo p1 p2)), .second, .val (.long (own_hi p1 p2)), .second, .val (.double (FP.l2d (own_lo p1 p2))), .second, .val (.double (FP.l2d (own_hi p1 p2))), .second, .val (.ref b6), .val (.int (own_f6 (FP.l2d (own_lo p1 p2)))), .val (.int (0 : Int32)), .val (.int (1 : Int32)), .val (.ref b18)] [])) _
            refine XS.iload X32.here hx rfl (hb hby at_178) rfl ?_
            show Steps p.tables e below (T32.setTop (mkF m 180 #[.val (.int p1), .val (.int p2), .val (.int p3), .val (.int (0 : Int32)), .val (.long (own_lo p1 p2)), .second, .val (.long (own_hi p1 p2)), .second, .val (.double (FP.l2d (own_lo p1 p2))), .second, .val (.double (FP.l2d (own_hi p1 p2))), .second, .val (.ref b6), .val (.int (own_f6 (FP.l2d (own_lo p1 p2)))), .val (.int (0 : Int32)), .val (.int (1 : Int32)), .val (.ref b18)] [(.int (1 : Int32))])) _
            exact retN X32 hx (t := .boolean) Bd.returns (by simp) (hb hby at_180) hr
          · show own_Q0 Z p1 p2 p3 h0 n0 _ T32.heap _
            rw [e32]
            exact ⟨(by rw [own_f0, if_pos hc1, if_pos hc2, if_pos hc3, if_pos hc4]), N33⟩
        ·
          obtain ⟨fs, hr, hrun, hended, hW, hsame⟩ := X32.leave (hlocks := hlk) (v := some (.int (0 : Int32))) (fun h => by rw [Bd.returns] at h; cases h)
          refine ⟨_, _, k34 _ ?_, hrun, hended, _, _, rfl, ?_, ⟨_, rfl⟩, hW, hsame.mono (by decide) (by decide)⟩
          · show Steps p.tables e below (T32.setTop (mkF m 168 #[.val (.int p1), .val (.int p2), .val (.int p3), .val (.int (0 : Int32)), .val (.long (own_lo p1 p2)), .second, .val (.long (own_hi p1 p2)), .second, .val (.double (FP.l2d (own_lo p1 p2))), .second, .val (.double (FP.l2d (own_hi p1 p2))), .second, .val (.ref b6), .val (.int (own_f6 (FP.l2d (own_lo p1 p2)))), .val (.int (0 : Int32)), .val (.int (1 : Int32)), .val (.ref b18)] [(.int (own_f7 (FP.dsub FP.dconst1 (FP.l2d (own_lo p1 p2))))), (.int (own_f6 (FP.l2d (own_lo p1 p2))))])) _
            refine XS.icmpYes X32.here hx rfl (pc0 := 168) (pc' := 175) rfl (hb hby at_168) rfl (feq hc4).2 (by decide) (by decide) ?_
            show Steps p.tables e below (T32.setTop (mkF m 175 #[.val (.int p1), .val (.int p2), .val (.int p3), .val (.int (0 : Int32)), .val (.long (own_lo p1 p2)), .second, .val (.long (own_hi p1 p2)), .second, .val (.double (FP.l2d (own_lo p1 p2))), .second, .val (.double (FP.l2d (own_hi p1 p2))), .second, .val (.ref b6), .val (.int (own_f6 (FP.l2d (own_lo p1 p2)))), .val (.int (0 : Int32)), .val (.int (1 : Int32)), .val (.ref b18)] [])) _
            refine XS.iconst X32.here hx rfl (hb hby at_175) ?_
            show Steps p.tables e below (T32.setTop (mkF m 176 #[.val (.int p1), .val (.int p2), .val (.int p3), .val (.int (0 : Int32)), .val (.long (own_lo p1 p2)), .second, .val (.long (own_hi p1 p2)), .second, .val (.double (FP.l2d (own_lo p1 p2))), .second, .val (.double (FP.l2d (own_hi p1 p2))), .second, .val (.ref b6), .val (.int (own_f6 (FP.l2d (own_lo p1 p2)))), .val (.int (0 : Int32)), .val (.int (1 : Int32)), .val (.ref b18)] [(.int (0 : Int32))])) _
            refine XS.istore X32.here hx rfl (hb hby at_176) rfl (l' := #[.val (.int p1), .val (.int p2), .val (.int p3), .val (.int (0 : Int32)), .val (.long (own_lo p1 p2)), .second, .val (.long (own_hi p1 p2)), .second, .val (.double (FP.l2d (own_lo p1 p2))), .second, .val (.double (FP.l2d (own_hi p1 p2))), .second, .val (.ref b6), .val (.int (own_f6 (FP.l2d (own_lo p1 p2)))), .val (.int (0 : Int32)), .val (.int (0 : Int32)), .val (.ref b18)]) rfl ?_
            show Steps p.tables e below (T32.setTop (mkF m 178 #[.val (.int p1), .val (.int p2), .val (.int p3), .val (.int (0 : Int32)), .val (.long (own_lo p1 p2)), .second, .val (.long (own_hi p1 p2)), .second, .val (.double (FP.l2d (own_lo p1 p2))), .second, .val (.double (FP.l2d (own_hi p1 p2))), .second, .val (.ref b6), .val (.int (own_f6 (FP.l2d (own_lo p1 p2)))), .val (.int (0 : Int32)), .val (.int (0 : Int32)), .val (.ref b18)] [])) _
            refine XS.iload X32.here hx rfl (hb hby at_178) rfl ?_
            show Steps p.tables e below (T32.setTop (mkF m 180 #[.val (.int p1), .val (.int p2), .val (.int p3), .val (.int (0 : Int32)), .val (.long (own_lo p1 p2)), .second, .val (.long (own_hi p1 p2)), .second, .val (.double (FP.l2d (own_lo p1 p2))), .second, .val (.double (FP.l2d (own_hi p1 p2))), .second, .val (.ref b6), .val (.int (own_f6 (FP.l2d (own_lo p1 p2)))), .val (.int (0 : Int32)), .val (.int (0 : Int32)), .val (.ref b18)] [(.int (0 : Int32))])) _
            exact retN X32 hx (t := .boolean) Bd.returns (by simp) (hb hby at_180) hr
          · show own_Q0 Z p1 p2 p3 h0 n0 _ T32.heap _
            rw [e32]
            exact ⟨(by rw [own_f0, if_pos hc1, if_pos hc2, if_pos hc3, if_neg hc4]), N33⟩
      ·
        obtain ⟨T35, h35, X35, e35, E35, A35, D35, -, st35⟩ := newO X14 hx hZ hown (hw _ (List.mem_of_getElem? (i := 7) rfl)) (hw _ (List.mem_of_getElem? (i := 8) rfl)) (hw _ (List.mem_of_getElem? (i := 9) rfl)) e14 (g := (mkF m 139 #[.val (.int p1), .val (.int p2), .val (.int p3), .val (.int (0 : Int32)), .val (.long (own_lo p1 p2)), .second, .val (.long (own_hi p1 p2)), .second, .val (.double (FP.l2d (own_lo p1 p2))), .second, .val (.double (FP.l2d (own_hi p1 p2))), .second, .val (.ref b6), .val (.int (own_f6 (FP.l2d (own_lo p1 p2)))), .val (.int (0 : Int32)), .val (.int (0 : Int32)), .unset] [])) rfl (hb hby at_139) (by decide) (by decide)
        obtain ⟨b35, g35⟩ : ∃ z, z = T8.heap.size := ⟨_, rfl⟩
        rw [← g35] at A35 D35 st35
        have ne_b6_b35 : b6 ≠ b35 := Nat.ne_of_lt (Nat.lt_of_lt_of_le Q8_0.lt (Nat.le_of_eq g35.symm))
        have g_b35 : n0 ≤ b35 := Nat.le_trans Z12 (Nat.le_of_eq g35.symm)
        have f36 := Q8_0.ext E35
        have f37 := Q8_1.ext E35
        have f38 := Q8_2.ext E35
        have Z39 := Nat.le_trans Z12 E35.1
        have F_low_b35 : Fld Z h35 b35 "com/example/edgbaston/edgbaston/model/Interval" "low" "D" (.double (0 : UInt64)) := D35 (Or.inr (hw _ (List.mem_of_getElem? (i := 22) rfl))) (ty := .double) (by decide)
        have F_high_b35 : Fld Z h35 b35 "com/example/edgbaston/edgbaston/model/Interval" "high" "D" (.double (0 : UInt64)) := D35 (Or.inr (hw _ (List.mem_of_getElem? (i := 24) rfl))) (ty := .double) (by decide)
        obtain ⟨v40, _, ⟨T40, L40, k40, n40⟩, -, X40, ⟨Lc40, hQ40, l40, y40, z40⟩, st40⟩ := X35.specialBack hx (y := (⟨"com/example/edgbaston/edgbaston/model/Interval", "<init>", "(DD)V"⟩ : MethodName)) rfl hown (mvT hZ (hw _ (List.mem_of_getElem? (i := 10) rfl))) (mvT hZ (hw _ (List.mem_of_getElem? (i := 11) rfl))) (mvT hZ (hw _ (List.mem_of_getElem? (i := 12) rfl))) (by decide) (backOf (W := 1) (own_rm3 l Z a0 hw [] b35 (FP.dsub FP.dconst1 (FP.l2d (own_hi p1 p2))) (FP.dsub FP.dconst1 (FP.l2d (own_lo p1 p2))) (0 : UInt64) (0 : UInt64) h35 n0 Z39 A35 F_low_b35 g_b35 F_high_b35) hZ (hw _ (List.mem_of_getElem? (i := 12) rfl)) (hw _ (List.mem_of_getElem? (i := 9) rfl)) (by decide) (by decide)) (g := (mkF m 151 #[.val (.int p1), .val (.int p2), .val (.int p3), .val (.int (0 : Int32)), .val (.long (own_lo p1 p2)), .second, .val (.long (own_hi p1 p2)), .second, .val (.double (FP.l2d (own_lo p1 p2))), .second, .val (.double (FP.l2d (own_hi p1 p2))), .second, .val (.ref b6), .val (.int (own_f6 (FP.l2d (own_lo p1 p2)))), .val (.int (0 : Int32)), .val (.int (0 : Int32)), .unset] [(.double (FP.dsub FP.dconst1 (FP.l2d (own_lo p1 p2)))), (.double (FP.dsub FP.dconst1 (FP.l2d (own_hi p1 p2)))), (.ref b35), (.ref b35)])) rfl (by rw [hml]; rfl) (Steps.refl _) (a := b35) (argsL := [(.double (FP.dsub FP.dconst1 (FP.l2d (own_hi p1 p2)))), (.double (FP.dsub FP.dconst1 (FP.l2d (own_lo p1 p2))))]) (rest := [(.ref b35)]) (lenOf own_pd52 rfl) rfl (by show 2 * 0 + _ ≤ _; exact Nat.le_of_eq rfl) (hb hby at_151) (fun _ _ => ⟨rfl, e35, (by decide : 2 + 0 ≤ _), (by decide : 4 + 0 ≤ _)⟩)
        dsimp only [Pt.U, Pt.locs, Pt.cells, Pt.slots] at X40 l40 y40 z40 st40 hQ40
        subst l40 y40 z40
        obtain ⟨rfl, N40q, K40, Q40_0, Q40_1, Q40_2⟩ := hQ40
        have f41 := f36.keep K40
        have f42 := f37.keep K40 (ninS ne_b6_b35 nin0)
        have f43 := f38.keep K40 (ninS ne_b6_b35 nin0)
        have f44 := A35.keep K40
        have Z47 := Nat.le_trans Z39 K40.1
        have N48 := Fr.app N15 N40q
        obtain ⟨fs, hr, hrun, hended, hW, hsame⟩ := X40.leave (hlocks := hlk) (v := some (.int (0 : Int32))) (fun h => by rw [Bd.returns] at h; cases h)
        refine ⟨_, _, k17 _ ?_, hrun, hended, _, _, rfl, ?_, ⟨_, rfl⟩, hW, hsame.mono (by decide) (by decide)⟩
        · show Steps p.tables e below (T14.setTop (mkF m 125 #[.val (.int p1), .val (.int p2), .val (.int p3), .val (.int (0 : Int32)), .val (.long (own_lo p1 p2)), .second, .val (.long (own_hi p1 p2)), .second, .val (.double (FP.l2d (own_lo p1 p2))), .second, .val (.double (FP.l2d (own_hi p1 p2))), .second, .val (.ref b6), .val (.int (own_f6 (FP.l2d (own_lo p1 p2)))), .val (.int (0 : Int32)), .unset, .unset] [(.int (0 : Int32)), (.int (own_f6 (FP.l2d (own_lo p1 p2))))])) _
          refine XS.icmpYes X14.here hx rfl (pc0 := 125) (pc' := 132) rfl (hb hby at_125) rfl (feq hc3).2 (by decide) (by decide) ?_
          show Steps p.tables e below (T14.setTop (mkF m 132 #[.val (.int p1), .val (.int p2), .val (.int p3), .val (.int (0 : Int32)), .val (.long (own_lo p1 p2)), .second, .val (.long (own_hi p1 p2)), .second, .val (.double (FP.l2d (own_lo p1 p2))), .second, .val (.double (FP.l2d (own_hi p1 p2))), .second, .val (.ref b6), .val (.int (own_f6 (FP.l2d (own_lo p1 p2)))), .val (.int (0 : Int32)), .unset, .unset] [])) _
          refine XS.iconst X14.here hx rfl (hb hby at_132) ?_
          show Steps p.tables e below (T14.setTop (mkF m 133 #[.val (.int p1), .val (.int p2), .val (.int p3), .val (.int (0 : Int32)), .val (.long (own_lo p1 p2)), .second, .val (.long (own_hi p1 p2)), .second, .val (.double (FP.l2d (own_lo p1 p2))), .second, .val (.double (FP.l2d (own_hi p1 p2))), .second, .val (.ref b6), .val (.int (own_f6 (FP.l2d (own_lo p1 p2)))), .val (.int (0 : Int32)), .unset, .unset] [(.int (0 : Int32))])) _
          refine XS.istore X14.here hx rfl (hb hby at_133) rfl (l' := #[.val (.int p1), .val (.int p2), .val (.int p3), .val (.int (0 : Int32)), .val (.long (own_lo p1 p2)), .second, .val (.long (own_hi p1 p2)), .second, .val (.double (FP.l2d (own_lo p1 p2))), .second, .val (.double (FP.l2d (own_hi p1 p2))), .second, .val (.ref b6), .val (.int (own_f6 (FP.l2d (own_lo p1 p2)))), .val (.int (0 : Int32)), .val (.int (0 : Int32)), .unset]) rfl ?_
          show Steps p.tables e below (T14.setTop (mkF m 135 #[.val (.int p1), .val (.int p2), .val (.int p3), .val (.int (0 : Int32)), .val (.long (own_lo p1 p2)), .second, .val (.long (own_hi p1 p2)), .second, .val (.double (FP.l2d (own_lo p1 p2))), .second, .val (.double (FP.l2d (own_hi p1 p2))), .second, .val (.ref b6), .val (.int (own_f6 (FP.l2d (own_lo p1 p2)))), .val (.int (0 : Int32)), .val (.int (0 : Int32)), .unset] [])) _
          refine XS.iloadN X14.here hx rfl (hb hby at_135) rfl ?_
          show Steps p.tables e below (T14.setTop (mkF m 136 #[.val (.int p1), .val (.int p2), .val (.int p3), .val (.int (0 : Int32)), .val (.long (own_lo p1 p2)), .second, .val (.long (own_hi p1 p2)), .second, .val (.double (FP.l2d (own_lo p1 p2))), .second, .val (.double (FP.l2d (own_hi p1 p2))), .second, .val (.ref b6), .val (.int (own_f6 (FP.l2d (own_lo p1 p2)))), .val (.int (0 : Int32)), .val (.int (0 : Int32)), .unset] [(.int (0 : Int32))])) _
          refine XS.ifNo X14.here hx rfl (hb hby at_136) rfl ((if0 _ _).trans (teq (by decide : (0 : Int32) = (0 : Int32))).2) ?_
          show Steps p.tables e below (T14.setTop (mkF m 139 #[.val (.int p1), .val (.int p2), .val (.int p3), .val (.int (0 : Int32)), .val (.long (own_lo p1 p2)), .second, .val (.long (own_hi p1 p2)), .second, .val (.double (FP.l2d (own_lo p1 p2))), .second, .val (.double (FP.l2d (own_hi p1 p2))), .second, .val (.ref b6), .val (.int (own_f6 (FP.l2d (own_lo p1 p2)))), .val (.int (0 : Int32)), .val (.int (0 : Int32)), .unset] [])) _
          refine st35 _ ?_
          show Steps p.tables e below (T35.setTop (mkF m 142 #[.val (.int p1), .val (.int p2), .val (.int p3), .val (.int (0 : Int32)), .val (.long (own_lo p1 p2)), .second, .val (.long (own_hi p1 p2)), .second, .val (.double (FP.l2d (own_lo p1 p2))), .second, .val (.double (FP.l2d (own_hi p1 p2))), .second, .val (.ref b6), .val (.int (own_f6 (FP.l2d (own_lo p1 p2)))), .val (.int (0 : Int32)), .val (.int (0 : Int32)), .unset] [(.ref b35)])) _
          refine XS.dup X35.here hx rfl (hb hby at_142) rfl rfl ?_
          show Steps p.tables e below (T35.setTop (mkF m 143 #[.val (.int p1), .val (.int p2), .val (.int p3), .val (.int (0 : Int32)), .val (.long (own_lo p1 p2)), .second, .val (.long (own_hi p1 p2)), .second, .val (.double (FP.l2d (own_lo p1 p2))), .second, .val (.double (FP.l2d (own_hi p1 p2))), .second, .val (.ref b6), .val (.int (own_f6 (FP.l2d (own_lo p1 p2)))), .val (.int (0 : Int32)), .val (.int (0 : Int32)), .unset] [(.ref b35), (.ref b35)])) _
          refine XS.dconst1 X35.here hx rfl (hb hby at_143) rfl ?_
          show Steps p.tables e below (T35.setTop (mkF m 144 #[.val (.int p1), .val (.int p2), .val (.int p3), .val (.int (0 : Int32)), .val (.long (own_lo p1 p2)), .second, .val (.long (own_hi p1 p2)), .second, .val (.double (FP.l2d (own_lo p1 p2))), .second, .val (.double (FP.l2d (own_hi p1 p2))), .second, .val (.ref b6), .val (.int (own_f6 (FP.l2d (own_lo p1 p2)))), .val (.int (0 : Int32)), .val (.int (0 : Int32)), .unset] [(.double FP.dconst1), (.ref b35), (.ref b35)])) _
          refine XS.dload X35.here hx rfl (hb hby at_144) rfl ?_
          show Steps p.tables e below (T35.setTop (mkF m 146 #[.val (.int p1), .val (.int p2), .val (.int p3), .val (.int (0 : Int32)), .val (.long (own_lo p1 p2)), .second, .val (.long (own_hi p1 p2)), .second, .val (.double (FP.l2d (own_lo p1 p2))), .second, .val (.double (FP.l2d (own_hi p1 p2))), .second, .val (.ref b6), .val (.int (own_f6 (FP.l2d (own_lo p1 p2)))), .val (.int (0 : Int32)), .val (.int (0 : Int32)), .unset] [(.double (FP.l2d (own_hi p1 p2))), (.double FP.dconst1), (.ref b35), (.ref b35)])) _
          refine XS.dsubS X35.here hx rfl (hb hby at_146) rfl (own_nan_dsub _) rfl ?_
          show Steps p.tables e below (T35.setTop (mkF m 147 #[.val (.int p1), .val (.int p2), .val (.int p3), .val (.int (0 : Int32)), .val (.long (own_lo p1 p2)), .second, .val (.long (own_hi p1 p2)), .second, .val (.double (FP.l2d (own_lo p1 p2))), .second, .val (.double (FP.l2d (own_hi p1 p2))), .second, .val (.ref b6), .val (.int (own_f6 (FP.l2d (own_lo p1 p2)))), .val (.int (0 : Int32)), .val (.int (0 : Int32)), .unset] [(.double (FP.dsub FP.dconst1 (FP.l2d (own_hi p1 p2)))), (.ref b35), (.ref b35)])) _
          refine XS.dconst1 X35.here hx rfl (hb hby at_147) rfl ?_
          show Steps p.tables e below (T35.setTop (mkF m 148 #[.val (.int p1), .val (.int p2), .val (.int p3), .val (.int (0 : Int32)), .val (.long (own_lo p1 p2)), .second, .val (.long (own_hi p1 p2)), .second, .val (.double (FP.l2d (own_lo p1 p2))), .second, .val (.double (FP.l2d (own_hi p1 p2))), .second, .val (.ref b6), .val (.int (own_f6 (FP.l2d (own_lo p1 p2)))), .val (.int (0 : Int32)), .val (.int (0 : Int32)), .unset] [(.double FP.dconst1), (.double (FP.dsub FP.dconst1 (FP.l2d (own_hi p1 p2)))), (.ref b35), (.ref b35)])) _
          refine XS.dload X35.here hx rfl (hb hby at_148) rfl ?_
          show Steps p.tables e below (T35.setTop (mkF m 150 #[.val (.int p1), .val (.int p2), .val (.int p3), .val (.int (0 : Int32)), .val (.long (own_lo p1 p2)), .second, .val (.long (own_hi p1 p2)), .second, .val (.double (FP.l2d (own_lo p1 p2))), .second, .val (.double (FP.l2d (own_hi p1 p2))), .second, .val (.ref b6), .val (.int (own_f6 (FP.l2d (own_lo p1 p2)))), .val (.int (0 : Int32)), .val (.int (0 : Int32)), .unset] [(.double (FP.l2d (own_lo p1 p2))), (.double FP.dconst1), (.double (FP.dsub FP.dconst1 (FP.l2d (own_hi p1 p2)))), (.ref b35), (.ref b35)])) _
          refine XS.dsubS X35.here hx rfl (hb hby at_150) rfl (own_nan_dsub _) rfl ?_
          show Steps p.tables e below (T35.setTop (mkF m 151 #[.val (.int p1), .val (.int p2), .val (.int p3), .val (.int (0 : Int32)), .val (.long (own_lo p1 p2)), .second, .val (.long (own_hi p1 p2)), .second, .val (.double (FP.l2d (own_lo p1 p2))), .second, .val (.double (FP.l2d (own_hi p1 p2))), .second, .val (.ref b6), .val (.int (own_f6 (FP.l2d (own_lo p1 p2)))), .val (.int (0 : Int32)), .val (.int (0 : Int32)), .unset] [(.double (FP.dsub FP.dconst1 (FP.l2d (own_lo p1 p2)))), (.double (FP.dsub FP.dconst1 (FP.l2d (own_hi p1 p2)))), (.ref b35), (.ref b35)])) _
          refine st40.trans ?_
          show Steps p.tables e below (T40.setTop (mkF m 154 #[.val (.int p1), .val (.int p2), .val (.int p3), .val (.int (0 : Int32)), .val (.long (own_lo p1 p2)), .second, .val (.long (own_hi p1 p2)), .second, .val (.double (FP.l2d (own_lo p1 p2))), .second, .val (.double (FP.l2d (own_hi p1 p2))), .second, .val (.ref b6), .val (.int (own_f6 (FP.l2d (own_lo p1 p2)))), .val (.int (0 : Int32)), .val (.int (0 : Int32)), .unset] [(.ref b35)])) _
          refine XS.astore X40.here hx rfl (hb hby at_154) rfl rfl (l' := #[.val (.int p1), .val (.int p2), .val (.int p3), .val (.int (0 : Int32)), .val (.long (own_lo p1 p2)), .second, .val (.long (own_hi p1 p2)), .second, .val (.double (FP.l2d (own_lo p1 p2))), .second, .val (.double (FP.l2d (own_hi p1 p2))), .second, .val (.ref b6), .val (.int (own_f6 (FP.l2d (own_lo p1 p2)))), .val (.int (0 : Int32)), .val (.int (0 : Int32)), .val (.ref b35)]) rfl ?_
          show Steps p.tables e below (T40.setTop (mkF m 156 #[.val (.int p1), .val (.int p2), .val (.int p3), .val (.int (0 : Int32)), .val (.long (own_lo p1 p2)), .second, .val (.long (own_hi p1 p2)), .second, .val (.double (FP.l2d (own_lo p1 p2))), .second, .val (.double (FP.l2d (own_hi p1 p2))), .second, .val (.ref b6), .val (.int (own_f6 (FP.l2d (own_lo p1 p2)))), .val (.int (0 : Int32)), .val (.int (0 : Int32)), .val (.ref b35)] [])) _
          refine XS.iload X40.here hx rfl (hb hby at_156) rfl ?_
          show Steps p.tables e below (T40.setTop (mkF m 158 #[.val (.int p1), .val (.int p2), .val (.int p3), .val (.int (0 : Int32)), .val (.long (own_lo p1 p2)), .second, .val (.long (own_hi p1 p2)), .second, .val (.double (FP.l2d (own_lo p1 p2))), .second, .val (.double (FP.l2d (own_hi p1 p2))), .second, .val (.ref b6), .val (.int (own_f6 (FP.l2d (own_lo p1 p2)))), .val (.int (0 : Int32)), .val (.int (0 : Int32)), .val (.ref b35)] [(.int (0 : Int32))])) _
          refine XS.ifYes X40.here hx rfl (pc0 := 158) (pc' := 175) rfl (hb hby at_158) rfl ((if0 _ _).trans (teq (by decide : (0 : Int32) = (0 : Int32))).1) (by decide) (by decide) ?_
          show Steps p.tables e below (T40.setTop (mkF m 175 #[.val (.int p1), .val (.int p2), .val (.int p3), .val (.int (0 : Int32)), .val (.long (own_lo p1 p2)), .second, .val (.long (own_hi p1 p2)), .second, .val (.double (FP.l2d (own_lo p1 p2))), .second, .val (.double (FP.l2d (own_hi p1 p2))), .second, .val (.ref b6), .val (.int (own_f6 (FP.l2d (own_lo p1 p2)))), .val (.int (0 : Int32)), .val (.int (0 : Int32)), .val (.ref b35)] [])) _
          refine XS.iconst X40.here hx rfl (hb hby at_175) ?_
          show Steps p.tables e below (T40.setTop (mkF m 176 #[.val (.int p1), .val (.int p2), .val (.int p3), .val (.int (0 : Int32)), .val (.long (own_lo p1 p2)), .second, .val (.long (own_hi p1 p2)), .second, .val (.double (FP.l2d (own_lo p1 p2))), .second, .val (.double (FP.l2d (own_hi p1 p2))), .second, .val (.ref b6), .val (.int (own_f6 (FP.l2d (own_lo p1 p2)))), .val (.int (0 : Int32)), .val (.int (0 : Int32)), .val (.ref b35)] [(.int (0 : Int32))])) _
          refine XS.istore X40.here hx rfl (hb hby at_176) rfl (l' := #[.val (.int p1), .val (.int p2), .val (.int p3), .val (.int (0 : Int32)), .val (.long (own_lo p1 p2)), .second, .val (.long (own_hi p1 p2)), .second, .val (.double (FP.l2d (own_lo p1 p2))), .second, .val (.double (FP.l2d (own_hi p1 p2))), .second, .val (.ref b6), .val (.int (own_f6 (FP.l2d (own_lo p1 p2)))), .val (.int (0 : Int32)), .val (.int (0 : Int32)), .val (.ref b35)]) rfl ?_
          show Steps p.tables e below (T40.setTop (mkF m 178 #[.val (.int p1), .val (.int p2), .val (.int p3), .val (.int (0 : Int32)), .val (.long (own_lo p1 p2)), .second, .val (.long (own_hi p1 p2)), .second, .val (.double (FP.l2d (own_lo p1 p2))), .second, .val (.double (FP.l2d (own_hi p1 p2))), .second, .val (.ref b6), .val (.int (own_f6 (FP.l2d (own_lo p1 p2)))), .val (.int (0 : Int32)), .val (.int (0 : Int32)), .val (.ref b35)] [])) _
          refine XS.iload X40.here hx rfl (hb hby at_178) rfl ?_
          show Steps p.tables e below (T40.setTop (mkF m 180 #[.val (.int p1), .val (.int p2), .val (.int p3), .val (.int (0 : Int32)), .val (.long (own_lo p1 p2)), .second, .val (.long (own_hi p1 p2)), .second, .val (.double (FP.l2d (own_lo p1 p2))), .second, .val (.double (FP.l2d (own_hi p1 p2))), .second, .val (.ref b6), .val (.int (own_f6 (FP.l2d (own_lo p1 p2)))), .val (.int (0 : Int32)), .val (.int (0 : Int32)), .val (.ref b35)] [(.int (0 : Int32))])) _
          exact retN X40 hx (t := .boolean) Bd.returns (by simp) (hb hby at_180) hr
        · show own_Q0 Z p1 p2 p3 h0 n0 _ T40.heap _
          exact ⟨(by rw [own_f0, if_pos hc1, if_pos hc2, if_neg hc3]), N48⟩
    ·
      have k49 : ∀ t, Steps p.tables e below (T14.setTop (mkF m 125 #[.val (.int p1), .val (.int p2), .val (.int p3), .val (.int (0 : Int32)), .val (.long (own_lo p1 p2)), .second, .val (.long (own_hi p1 p2)), .second, .val (.double (FP.l2d (own_lo p1 p2))), .second, .val (.double (FP.l2d (own_hi p1 p2))), .second, .val (.ref b6), .val (.int (own_f6 (FP.l2d (own_lo p1 p2)))), .val (.int (1 : Int32)), .unset, .unset] [(.int (1 : Int32)), (.int (own_f6 (FP.l2d (own_lo p1 p2))))])) t → Steps p.tables e below (s₁.setTop (entryFrame m #[(.int p1), (.int p2), (.int p3)] maxLocals)) t := by
        intro t kt
        refine k16 t ?_
        show Steps p.tables e below (T14.setTop (mkF m 111 #[.val (.int p1), .val (.int p2), .val (.int p3), .val (.int (0 : Int32)), .val (.long (own_lo p1 p2)), .second, .val (.long (own_hi p1 p2)), .second, .val (.double (FP.l2d (own_lo p1 p2))), .second, .val (.double (FP.l2d (own_hi p1 p2))), .second, .val (.ref b6), .val (.int (own_f6 (FP.l2d (own_lo p1 p2)))), .unset, .unset, .unset] [(.int (lcmpW (own_lo p1 p2) (0 : Int64)))])) _
        refine XS.ifNo X14.here hx rfl (hb hby at_111) rfl ((if0 _ _).trans (flt hc2).2.2.1) ?_
        show Steps p.tables e below (T14.setTop (mkF m 114 #[.val (.int p1), .val (.int p2), .val (.int p3), .val (.int (0 : Int32)), .val (.long (own_lo p1 p2)), .second, .val (.long (own_hi p1 p2)), .second, .val (.double (FP.l2d (own_lo p1 p2))), .second, .val (.double (FP.l2d (own_hi p1 p2))), .second, .val (.ref b6), .val (.int (own_f6 (FP.l2d (own_lo p1 p2)))), .unset, .unset, .unset] [])) _
        refine XS.iconst X14.here hx rfl (hb hby at_114) ?_
        show Steps p.tables e below (T14.setTop (mkF m 115 #[.val (.int p1), .val (.int p2), .val (.int p3), .val (.int (0 : Int32)), .val (.long (own_lo p1 p2)), .second, .val (.long (own_hi p1 p2)), .second, .val (.double (FP.l2d (own_lo p1 p2))), .second, .val (.double (FP.l2d (own_hi p1 p2))), .second, .val (.ref b6), .val (.int (own_f6 (FP.l2d (own_lo p1 p2)))), .unset, .unset, .unset] [(.int (1 : Int32))])) _
        refine XS.goto X14.here hx rfl (pc0 := 115) (pc' := 119) rfl (hb hby at_115) (by decide) (by decide) ?_
        show Steps p.tables e below (T14.setTop (mkF m 119 #[.val (.int p1), .val (.int p2), .val (.int p3), .val (.int (0 : Int32)), .val (.long (own_lo p1 p2)), .second, .val (.long (own_hi p1 p2)), .second, .val (.double (FP.l2d (own_lo p1 p2))), .second, .val (.double (FP.l2d (own_hi p1 p2))), .second, .val (.ref b6), .val (.int (own_f6 (FP.l2d (own_lo p1 p2)))), .unset, .unset, .unset] [(.int (1 : Int32))])) _
        refine XS.istore X14.here hx rfl (hb hby at_119) rfl (l' := #[.val (.int p1), .val (.int p2), .val (.int p3), .val (.int (0 : Int32)), .val (.long (own_lo p1 p2)), .second, .val (.long (own_hi p1 p2)), .second, .val (.double (FP.l2d (own_lo p1 p2))), .second, .val (.double (FP.l2d (own_hi p1 p2))), .second, .val (.ref b6), .val (.int (own_f6 (FP.l2d (own_lo p1 p2)))), .val (.int (1 : Int32)), .unset, .unset]) rfl ?_
        show Steps p.tables e below (T14.setTop (mkF m 121 #[.val (.int p1), .val (.int p2), .val (.int p3), .val (.int (0 : Int32)), .val (.long (own_lo p1 p2)), .second, .val (.long (own_hi p1 p2)), .second, .val (.double (FP.l2d (own_lo p1 p2))), .second, .val (.double (FP.l2d (own_hi p1 p2))), .second, .val (.ref b6), .val (.int (own_f6 (FP.l2d (own_lo p1 p2)))), .val (.int (1 : Int32)), .unset, .unset] [])) _
        refine XS.iload X14.here hx rfl (hb hby at_121) rfl ?_
        show Steps p.tables e below (T14.setTop (mkF m 123 #[.val (.int p1), .val (.int p2), .val (.int p3), .val (.int (0 : Int32)), .val (.long (own_lo p1 p2)), .second, .val (.long (own_hi p1 p2)), .second, .val (.double (FP.l2d (own_lo p1 p2))), .second, .val (.double (FP.l2d (own_hi p1 p2))), .second, .val (.ref b6), .val (.int (own_f6 (FP.l2d (own_lo p1 p2)))), .val (.int (1 : Int32)), .unset, .unset] [(.int (own_f6 (FP.l2d (own_lo p1 p2))))])) _
        refine XS.iload X14.here hx rfl (hb hby at_123) rfl ?_
        exact kt
      by_cases hc5 : (own_f6 (FP.l2d (own_lo p1 p2))) = (1 : Int32)
      ·
        obtain ⟨T50, h50, X50, e50, E50, A50, D50, -, st50⟩ := newO X14 hx hZ hown (hw _ (List.mem_of_getElem? (i := 7) rfl)) (hw _ (List.mem_of_getElem? (i := 8) rfl)) (hw _ (List.mem_of_getElem? (i := 9) rfl)) e14 (g := (mkF m 139 #[.val (.int p1), .val (.int p2), .val (.int p3), .val (.int (0 : Int32)), .val (.long (own_lo p1 p2)), .second, .val (.long (own_hi p1 p2)), .second, .val (.double (FP.l2d (own_lo p1 p2))), .second, .val (.double (FP.l2d (own_hi p1 p2))), .second, .val (.ref b6), .val (.int (own_f6 (FP.l2d (own_lo p1 p2)))), .val (.int (1 : Int32)), .val (.int (1 : Int32)), .unset] [])) rfl (hb hby at_139) (by decide) (by decide)
        obtain ⟨b50, g50⟩ : ∃ z, z = T8.heap.size := ⟨_, rfl⟩
        rw [← g50] at A50 D50 st50
        have ne_b6_b50 : b6 ≠ b50 := Nat.ne_of_lt (Nat.lt_of_lt_of_le Q8_0.lt (Nat.le_of_eq g50.symm))
        have g_b50 : n0 ≤ b50 := Nat.le_trans Z12 (Nat.le_of_eq g50.symm)
        have f51 := Q8_0.ext E50
        have f52 := Q8_1.ext E50
        have f53 := Q8_2.ext E50
        have Z54 := Nat.le_trans Z12 E50.1
        have F_low_b50 : Fld Z h50 b50 "com/example/edgbaston/edgbaston/model/Interval" "low" "D" (.double (0 : UInt64)) := D50 (Or.inr (hw _ (List.mem_of_getElem? (i := 22) rfl))) (ty := .double) (by decide)
        have F_high_b50 : Fld Z h50 b50 "com/example/edgbaston/edgbaston/model/Interval" "high" "D" (.double (0 : UInt64)) := D50 (Or.inr (hw _ (List.mem_of_getElem? (i := 24) rfl))) (ty := .double) (by decide)
        obtain ⟨v55, _, ⟨T55, L55, k55, n55⟩, -, X55, ⟨Lc55, hQ55, l55, y55, z55⟩, st55⟩ := X50.specialBack hx (y := (⟨"com/example/edgbaston/edgbaston/model/Interval", "<init>", "(DD)V"⟩ : MethodName)) rfl hown (mvT hZ (hw _ (List.mem_of_getElem? (i := 10) rfl))) (mvT hZ (hw _ (List.mem_of_getElem? (i := 11) rfl))) (mvT hZ (hw _ (List.mem_of_getElem? (i := 12) rfl))) (by decide) (backOf (W := 1) (own_rm3 l Z a0 hw [] b50 (FP.dsub FP.dconst1 (FP.l2d (own_hi p1 p2))) (FP.dsub FP.dconst1 (FP.l2d (own_lo p1 p2))) (0 : UInt64) (0 : UInt64) h50 n0 Z54 A50 F_low_b50 g_b50 F_high_b50) hZ (hw _ (List.mem_of_getElem? (i := 12) rfl)) (hw _ (List.mem_of_getElem? (i := 9) rfl)) (by decide) (by decide)) (g := (mkF m 151 #[.val (.int p1), .val (.int p2), .val (.int p3), .val (.int (0 : Int32)), .val (.long (own_lo p1 p2)), .second, .val (.long (own_hi p1 p2)), .second, .val (.double (FP.l2d (own_lo p1 p2))), .second, .val (.double (FP.l2d (own_hi p1 p2))), .second, .val (.ref b6), .val (.int (own_f6 (FP.l2d (own_lo p1 p2)))), .val (.int (1 : Int32)), .val (.int (1 : Int32)), .unset] [(.double (FP.dsub FP.dconst1 (FP.l2d (own_lo p1 p2)))), (.double (FP.dsub FP.dconst1 (FP.l2d (own_hi p1 p2)))), (.ref b50), (.ref b50)])) rfl (by rw [hml]; rfl) (Steps.refl _) (a := b50) (argsL := [(.double (FP.dsub FP.dconst1 (FP.l2d (own_hi p1 p2)))), (.double (FP.dsub FP.dconst1 (FP.l2d (own_lo p1 p2))))]) (rest := [(.ref b50)]) (lenOf own_pd52 rfl) rfl (by show 2 * 0 + _ ≤ _; exact Nat.le_of_eq rfl) (hb hby at_151) (fun _ _ => ⟨rfl, e50, (by decide : 2 + 0 ≤ _), (by decide : 4 + 0 ≤ _)⟩)
        dsimp only [Pt.U, Pt.locs, Pt.cells, Pt.slots] at X55 l55 y55 z55 st55 hQ55
        subst l55 y55 z55
        obtain ⟨rfl, N55q, K55, Q55_0, Q55_1, Q55_2⟩ := hQ55
        have f56 := f51.keep K55
        have f57 := f52.keep K55 (ninS ne_b6_b50 nin0)
        have f58 := f53.keep K55 (ninS ne_b6_b50 nin0)
        have f59 := A50.keep K55
        have Z62 := Nat.le_trans Z54 K55.1
        have N63 := Fr.app N15 N55q
        obtain ⟨cq64, kq64, q64a, q64b, q64c⟩ := isOf hZ rfl Q55_0
        obtain ⟨v64, _, ⟨T64, L64, k64, n64⟩, -, X64, ⟨Lc64, hQ64, l64, y64, z64⟩, st64⟩ := X55.virtualBack hx (y := (⟨"com/example/edgbaston/edgbaston/model/Interval", "canBeTrue", "()Z"⟩ : MethodName)) (z := (⟨"com/example/edgbaston/edgbaston/model/Interval", "canBeTrue", "()Z"⟩ : MethodName)) hown (mvT hZ (hw _ (List.mem_of_getElem? (i := 30) rfl))) (mvT hZ (hw _ (List.mem_of_getElem? (i := 31) rfl))) (notFace_of_selects (args := #[]) (mvT hZ (hw _ (List.mem_of_getElem? (i := 33) rfl)))) (mvT hZ (hw _ (List.mem_of_getElem? (i := 33) rfl))) (mvT hZ (hw _ (List.mem_of_getElem? (i := 32) rfl))) (by decide) (backOf (W := 1) (own_rm7 l Z a0 hw [] b50 (FP.dsub FP.dconst1 (FP.l2d (own_lo p1 p2))) T55.heap n0 Z62 Q55_2) hZ (hw _ (List.mem_of_getElem? (i := 34) rfl)) (hw _ (List.mem_of_getElem? (i := 9) rfl)) (by decide) (by decide)) q64a q64c (g := (mkF m 165 #[.val (.int p1), .val (.int p2), .val (.int p3), .val (.int (0 : Int32)), .val (.long (own_lo p1 p2)), .second, .val (.long (own_hi p1 p2)), .second, .val (.double (FP.l2d (own_lo p1 p2))), .second, .val (.double (FP.l2d (own_hi p1 p2))), .second, .val (.ref b6), .val (.int (own_f6 (FP.l2d (own_lo p1 p2)))), .val (.int (1 : Int32)), .val (.int (1 : Int32)), .val (.ref b50)] [(.ref b50), (.int (own_f6 (FP.l2d (own_lo p1 p2))))])) rfl (by rw [hml]; rfl) (Steps.refl _) (argsL := []) (rest := [(.int (own_f6 (FP.l2d (own_lo p1 p2))))]) (lenOf own_pd53 rfl) rfl (by show 2 * 0 + _ ≤ _; exact Nat.le_of_eq rfl) (hb hby at_165) (fun _ _ => ⟨rfl, rfl, (by decide : 2 + 0 ≤ _), (by decide : 4 + 0 ≤ _)⟩)
        dsimp only [Pt.U, Pt.locs, Pt.cells, Pt.slots] at X64 l64 y64 z64 st64 hQ64
        subst l64 y64 z64
        obtain ⟨rfl, N64q, e64⟩ := hQ64
        have N65 := Fr.app N63 N64q
        have k66 : ∀ t, Steps p.tables e below (T64.setTop (mkF m 168 #[.val (.int p1), .val (.int p2), .val (.int p3), .val (.int (0 : Int32)), .val (.long (own_lo p1 p2)), .second, .val (.long (own_hi p1 p2)), .second, .val (.double (FP.l2d (own_lo p1 p2))), .second, .val (.double (FP.l2d (own_hi p1 p2))), .second, .val (.ref b6), .val (.int (own_f6 (FP.l2d (own_lo p1 p2)))), .val (.int (1 : Int32)), .val (.int (1 : Int32)), .val (.ref b50)] [(.int (own_f7 (FP.dsub FP.dconst1 (FP.l2d (own_lo p1 p2))))), (.int (own_f6 (FP.l2d (own_lo p1 p2))))])) t → Steps p.tables e below (s₁.setTop (entryFrame m #[(.int p1), (.int p2), (.int p3)] maxLocals)) t := by
          intro t kt
          refine k49 t ?_
          show Steps p.tables e below (T14.setTop (mkF m 125 #[.val (.int p1), .val (.int p2), .val (.int p3), .val (.int (0 : Int32)), .val (.long (own_lo p1 p2)), .second, .val (.long (own_hi p1 p2)), .second, .val (.double (FP.l2d (own_lo p1 p2))), .second, .val (.double (FP.l2d (own_hi p1 p2))), .second, .val (.ref b6), .val (.int (own_f6 (FP.l2d (own_lo p1 p2)))), .val (.int (1 : Int32)), .unset, .unset] [(.int (1 : Int32)), (.int (own_f6 (FP.l2d (own_lo p1 p2))))])) _
          refine XS.icmpNo X14.here hx rfl (hb hby at_125) rfl (teq hc5).2 ?_
          show Steps p.tables e below (T14.setTop (mkF m 128 #[.val (.int p1), .val (.int p2), .val (.int p3), .val (.int (0 : Int32)), .val (.long (own_lo p1 p2)), .second, .val (.long (own_hi p1 p2)), .second, .val (.double (FP.l2d (own_lo p1 p2))), .second, .val (.double (FP.l2d (own_hi p1 p2))), .second, .val (.ref b6), .val (.int (own_f6 (FP.l2d (own_lo p1 p2)))), .val (.int (1 : Int32)), .unset, .unset] [])) _
          refine XS.iconst X14.here hx rfl (hb hby at_128) ?_
          show Steps p.tables e below (T14.setTop (mkF m 129 #[.val (.int p1), .val (.int p2), .val (.int p3), .val (.int (0 : Int32)), .val (.long (own_lo p1 p2)), .second, .val (.long (own_hi p1 p2)), .second, .val (.double (FP.l2d (own_lo p1 p2))), .second, .val (.double (FP.l2d (own_hi p1 p2))), .second, .val (.ref b6), .val (.int (own_f6 (FP.l2d (own_lo p1 p2)))), .val (.int (1 : Int32)), .unset, .unset] [(.int (1 : Int32))])) _
          refine XS.goto X14.here hx rfl (pc0 := 129) (pc' := 133) rfl (hb hby at_129) (by decide) (by decide) ?_
          show Steps p.tables e below (T14.setTop (mkF m 133 #[.val (.int p1), .val (.int p2), .val (.int p3), .val (.int (0 : Int32)), .val (.long (own_lo p1 p2)), .second, .val (.long (own_hi p1 p2)), .second, .val (.double (FP.l2d (own_lo p1 p2))), .second, .val (.double (FP.l2d (own_hi p1 p2))), .second, .val (.ref b6), .val (.int (own_f6 (FP.l2d (own_lo p1 p2)))), .val (.int (1 : Int32)), .unset, .unset] [(.int (1 : Int32))])) _
          refine XS.istore X14.here hx rfl (hb hby at_133) rfl (l' := #[.val (.int p1), .val (.int p2), .val (.int p3), .val (.int (0 : Int32)), .val (.long (own_lo p1 p2)), .second, .val (.long (own_hi p1 p2)), .second, .val (.double (FP.l2d (own_lo p1 p2))), .second, .val (.double (FP.l2d (own_hi p1 p2))), .second, .val (.ref b6), .val (.int (own_f6 (FP.l2d (own_lo p1 p2)))), .val (.int (1 : Int32)), .val (.int (1 : Int32)), .unset]) rfl ?_
          show Steps p.tables e below (T14.setTop (mkF m 135 #[.val (.int p1), .val (.int p2), .val (.int p3), .val (.int (0 : Int32)), .val (.long (own_lo p1 p2)), .second, .val (.long (own_hi p1 p2)), .second, .val (.double (FP.l2d (own_lo p1 p2))), .second, .val (.double (FP.l2d (own_hi p1 p2))), .second, .val (.ref b6), .val (.int (own_f6 (FP.l2d (own_lo p1 p2)))), .val (.int (1 : Int32)), .val (.int (1 : Int32)), .unset] [])) _
          refine XS.iloadN X14.here hx rfl (hb hby at_135) rfl ?_
          show Steps p.tables e below (T14.setTop (mkF m 136 #[.val (.int p1), .val (.int p2), .val (.int p3), .val (.int (0 : Int32)), .val (.long (own_lo p1 p2)), .second, .val (.long (own_hi p1 p2)), .second, .val (.double (FP.l2d (own_lo p1 p2))), .second, .val (.double (FP.l2d (own_hi p1 p2))), .second, .val (.ref b6), .val (.int (own_f6 (FP.l2d (own_lo p1 p2)))), .val (.int (1 : Int32)), .val (.int (1 : Int32)), .unset] [(.int (0 : Int32))])) _
          refine XS.ifNo X14.here hx rfl (hb hby at_136) rfl ((if0 _ _).trans (teq (by decide : (0 : Int32) = (0 : Int32))).2) ?_
          show Steps p.tables e below (T14.setTop (mkF m 139 #[.val (.int p1), .val (.int p2), .val (.int p3), .val (.int (0 : Int32)), .val (.long (own_lo p1 p2)), .second, .val (.long (own_hi p1 p2)), .second, .val (.double (FP.l2d (own_lo p1 p2))), .second, .val (.double (FP.l2d (own_hi p1 p2))), .second, .val (.ref b6), .val (.int (own_f6 (FP.l2d (own_lo p1 p2)))), .val (.int (1 : Int32)), .val (.int (1 : Int32)), .unset] [])) _
          refine st50 _ ?_
          show Steps p.tables e below (T50.setTop (mkF m 142 #[.val (.int p1), .val (.int p2), .val (.int p3), .val (.int (0 : Int32)), .val (.long (own_lo p1 p2)), .second, .val (.long (own_hi p1 p2)), .second, .val (.double (FP.l2d (own_lo p1 p2))), .second, .val (.double (FP.l2d (own_hi p1 p2))), .second, .val (.ref b6), .val (.int (own_f6 (FP.l2d (own_lo p1 p2)))), .val (.int (1 : Int32)), .val (.int (1 : Int32)), .unset] [(.ref b50)])) _
          refine XS.dup X50.here hx rfl (hb hby at_142) rfl rfl ?_
          show Steps p.tables e below (T50.setTop (mkF m 143 #[.val (.int p1), .val (.int p2), .val (.int p3), .val (.int (0 : Int32)), .val (.long (own_lo p1 p2)), .second, .val (.long (own_hi p1 p2)), .second, .val (.double (FP.l2d (own_lo p1 p2))), .second, .val (.double (FP.l2d (own_hi p1 p2))), .second, .val (.ref b6), .val (.int (own_f6 (FP.l2d (own_lo p1 p2)))), .val (.int (1 : Int32)), .val (.int (1 : Int32)), .unset] [(.ref b50), (.ref b50)])) _
          refine XS.dconst1 X50.here hx rfl (hb hby at_143) rfl ?_
          show Steps p.tables e below (T50.setTop (mkF m 144 #[.val (.int p1), .val (.int p2), .val (.int p3), .val (.int (0 : Int32)), .val (.long (own_lo p1 p2)), .second, .val (.long (own_hi p1 p2)), .second, .val (.double (FP.l2d (own_lo p1 p2))), .second, .val (.double (FP.l2d (own_hi p1 p2))), .second, .val (.ref b6), .val (.int (own_f6 (FP.l2d (own_lo p1 p2)))), .val (.int (1 : Int32)), .val (.int (1 : Int32)), .unset] [(.double FP.dconst1), (.ref b50), (.ref b50)])) _
          refine XS.dload X50.here hx rfl (hb hby at_144) rfl ?_
          show Steps p.tables e below (T50.setTop (mkF m 146 #[.val (.int p1), .val (.int p2), .val (.int p3), .val (.int (0 : Int32)), .val (.long (own_lo p1 p2)), .second, .val (.long (own_hi p1 p2)), .second, .val (.double (FP.l2d (own_lo p1 p2))), .second, .val (.double (FP.l2d (own_hi p1 p2))), .second, .val (.ref b6), .val (.int (own_f6 (FP.l2d (own_lo p1 p2)))), .val (.int (1 : Int32)), .val (.int (1 : Int32)), .unset] [(.double (FP.l2d (own_hi p1 p2))), (.double FP.dconst1), (.ref b50), (.ref b50)])) _
          refine XS.dsubS X50.here hx rfl (hb hby at_146) rfl (own_nan_dsub _) rfl ?_
          show Steps p.tables e below (T50.setTop (mkF m 147 #[.val (.int p1), .val (.int p2), .val (.int p3), .val (.int (0 : Int32)), .val (.long (own_lo p1 p2)), .second, .val (.long (own_hi p1 p2)), .second, .val (.double (FP.l2d (own_lo p1 p2))), .second, .val (.double (FP.l2d (own_hi p1 p2))), .second, .val (.ref b6), .val (.int (own_f6 (FP.l2d (own_lo p1 p2)))), .val (.int (1 : Int32)), .val (.int (1 : Int32)), .unset] [(.double (FP.dsub FP.dconst1 (FP.l2d (own_hi p1 p2)))), (.ref b50), (.ref b50)])) _
          refine XS.dconst1 X50.here hx rfl (hb hby at_147) rfl ?_
          show Steps p.tables e below (T50.setTop (mkF m 148 #[.val (.int p1), .val (.int p2), .val (.int p3), .val (.int (0 : Int32)), .val (.long (own_lo p1 p2)), .second, .val (.long (own_hi p1 p2)), .second, .val (.double (FP.l2d (own_lo p1 p2))), .second, .val (.double (FP.l2d (own_hi p1 p2))), .second, .val (.ref b6), .val (.int (own_f6 (FP.l2d (own_lo p1 p2)))), .val (.int (1 : Int32)), .val (.int (1 : Int32)), .unset] [(.double FP.dconst1), (.double (FP.dsub FP.dconst1 (FP.l2d (own_hi p1 p2)))), (.ref b50), (.ref b50)])) _
          refine XS.dload X50.here hx rfl (hb hby at_148) rfl ?_
          show Steps p.tables e below (T50.setTop (mkF m 150 #[.val (.int p1), .val (.int p2), .val (.int p3), .val (.int (0 : Int32)), .val (.long (own_lo p1 p2)), .second, .val (.long (own_hi p1 p2)), .second, .val (.double (FP.l2d (own_lo p1 p2))), .second, .val (.double (FP.l2d (own_hi p1 p2))), .second, .val (.ref b6), .val (.int (own_f6 (FP.l2d (own_lo p1 p2)))), .val (.int (1 : Int32)), .val (.int (1 : Int32)), .unset] [(.double (FP.l2d (own_lo p1 p2))), (.double FP.dconst1), (.double (FP.dsub FP.dconst1 (FP.l2d (own_hi p1 p2)))), (.ref b50), (.ref b50)])) _
          refine XS.dsubS X50.here hx rfl (hb hby at_150) rfl (own_nan_dsub _) rfl ?_
          show Steps p.tables e below (T50.setTop (mkF m 151 #[.val (.int p1), .val (.int p2), .val (.int p3), .val (.int (0 : Int32)), .val (.long (own_lo p1 p2)), .second, .val (.long (own_hi p1 p2)), .second, .val (.double (FP.l2d (own_lo p1 p2))), .second, .val (.double (FP.l2d (own_hi p1 p2))), .second, .val (.ref b6), .val (.int (own_f6 (FP.l2d (own_lo p1 p2)))), .val (.int (1 : Int32)), .val (.int (1 : Int32)), .unset] [(.double (FP.dsub FP.dconst1 (FP.l2d (own_lo p1 p2)))), (.double (FP.dsub FP.dconst1 (FP.l2d (own_hi p1 p2)))), (.ref b50), (.ref b50)])) _
          refine st55.trans ?_
          show Steps p.tables e below (T55.setTop (mkF m 154 #[.val (.int p1), .val (.int p2), .val (.int p3), .val (.int (0 : Int32)), .val (.long (own_lo p1 p2)), .second, .val (.long (own_hi p1 p2)), .second, .val (.double (FP.l2d (own_lo p1 p2))), .second, .val (.double (FP.l2d (own_hi p1 p2))), .second, .val (.ref b6), .val (.int (own_f6 (FP.l2d (own_lo p1 p2)))), .val (.int (1 : Int32)), .val (.int (1 : Int32)), .unset] [(.ref b50)])) _
          refine XS.astore X55.here hx rfl (hb hby at_154) rfl rfl (l' := #[.val (.int p1), .val (.int p2), .val (.int p3), .val (.int (0 : Int32)), .val (.long (own_lo p1 p2)), .second, .val (.long (own_hi p1 p2)), .second, .val (.double (FP.l2d (own_lo p1 p2))), .second, .val (.double (FP.l2d (own_hi p1 p2))), .second, .val (.ref b6), .val (.int (own_f6 (FP.l2d (own_lo p1 p2)))), .val (.int (1 : Int32)), .val (.int (1 : Int32)), .val (.ref b50)]) rfl ?_
          show Steps p.tables e below (T55.setTop (mkF m 156 #[.val (.int p1), .val (.int p2), .val (.int p3), .val (.int (0 : Int32)), .val (.long (own_lo p1 p2)), .second, .val (.long (own_hi p1 p2)), .second, .val (.double (FP.l2d (own_lo p1 p2))), .second, .val (.double (FP.l2d (own_hi p1 p2))), .second, .val (.ref b6), .val (.int (own_f6 (FP.l2d (own_lo p1 p2)))), .val (.int (1 : Int32)), .val (.int (1 : Int32)), .val (.ref b50)] [])) _
          refine XS.iload X55.here hx rfl (hb hby at_156) rfl ?_
          show Steps p.tables e below (T55.setTop (mkF m 158 #[.val (.int p1), .val (.int p2), .val (.int p3), .val (.int (0 : Int32)), .val (.long (own_lo p1 p2)), .second, .val (.long (own_hi p1 p2)), .second, .val (.double (FP.l2d (own_lo p1 p2))), .second, .val (.double (FP.l2d (own_hi p1 p2))), .second, .val (.ref b6), .val (.int (own_f6 (FP.l2d (own_lo p1 p2)))), .val (.int (1 : Int32)), .val (.int (1 : Int32)), .val (.ref b50)] [(.int (1 : Int32))])) _
          refine XS.ifNo X55.here hx rfl (hb hby at_158) rfl ((if0 _ _).trans (feq (by decide : ¬ ((1 : Int32) = (0 : Int32)))).1) ?_
          show Steps p.tables e below (T55.setTop (mkF m 161 #[.val (.int p1), .val (.int p2), .val (.int p3), .val (.int (0 : Int32)), .val (.long (own_lo p1 p2)), .second, .val (.long (own_hi p1 p2)), .second, .val (.double (FP.l2d (own_lo p1 p2))), .second, .val (.double (FP.l2d (own_hi p1 p2))), .second, .val (.ref b6), .val (.int (own_f6 (FP.l2d (own_lo p1 p2)))), .val (.int (1 : Int32)), .val (.int (1 : Int32)), .val (.ref b50)] [])) _
          refine XS.iload X55.here hx rfl (hb hby at_161) rfl ?_
          show Steps p.tables e below (T55.setTop (mkF m 163 #[.val (.int p1), .val (.int p2), .val (.int p3), .val (.int (0 : Int32)), .val (.long (own_lo p1 p2)), .second, .val (.long (own_hi p1 p2)), .second, .val (.double (FP.l2d (own_lo p1 p2))), .second, .val (.double (FP.l2d (own_hi p1 p2))), .second, .val (.ref b6), .val (.int (own_f6 (FP.l2d (own_lo p1 p2)))), .val (.int (1 : Int32)), .val (.int (1 : Int32)), .val (.ref b50)] [(.int (own_f6 (FP.l2d (own_lo p1 p2))))])) _
          refine XS.aload X55.here hx rfl (hb hby at_163) rfl rfl ?_
          show Steps p.tables e below (T55.setTop (mkF m 165 #[.val (.int p1), .val (.int p2), .val (.int p3), .val (.int (0 : Int32)), .val (.long (own_lo p1 p2)), .second, .val (.long (own_hi p1 p2)), .second, .val (.double (FP.l2d (own_lo p1 p2))), .second, .val (.double (FP.l2d (own_hi p1 p2))), .second, .val (.ref b6), .val (.int (own_f6 (FP.l2d (own_lo p1 p2)))), .val (.int (1 : Int32)), .val (.int (1 : Int32)), .val (.ref b50)] [(.ref b50), (.int (own_f6 (FP.l2d (own_lo p1 p2))))])) _
          refine st64.trans ?_
          exact kt
        by_cases hc6 : (own_f6 (FP.l2d (own_lo p1 p2))) = (own_f7 (FP.dsub FP.dconst1 (FP.l2d (own_lo p1 p2))))
        ·
          obtain ⟨fs, hr, hrun, hended, hW, hsame⟩ := X64.leave (hlocks := hlk) (v := some (.int (1 : Int32))) (fun h => by rw [Bd.returns] at h; cases h)
          refine ⟨_, _, k66 _ ?_, hrun, hended, _, _, rfl, ?_, ⟨_, rfl⟩, hW, hsame.mono (by decide) (by decide)⟩
          · show Steps p.tables e below (T64.setTop (mkF m 168 #[.val (.int p1), .val (.int p2), .val (.int p3), .val (.int (0 : Int32)), .val (.long (own_lo p1 p2)), .second, .val (.long (own_hi p1 p2)), .second, .val (.double (FP.l2d (own_lo p1 p2))), .second, .val (.double (FP.l2d (own_hi p1 p2))), .second, .val (.ref b6), .val (.int (own_f6 (FP.l2d (own_lo p1 p2)))), .val (.int (1 : Int32)), .val (.int (1 : Int32)), .val (.ref b50)] [(.int (own_f7 (FP.dsub FP.dconst1 (FP.l2d (own_lo p1 p2))))), (.int (own_f6 (FP.l2d (own_lo p1 p2))))])) _
            refine XS.icmpNo X64.here hx rfl (hb hby at_168) rfl (teq hc6).2 ?_
            show Steps p.tables e below (T64.setTop (mkF m 171 #[.val (.int p1), .val (.int p2), .val (.int p3), .val (.int (0 : Int32)), .val (.long (own_lo p1 p2)), .second, .val (.long (own_hi p1 p2)), .second, .val (.double (FP.l2d (own_lo p1 p2))), .second, .val (.double (FP.l2d (own_hi p1 p2))), .second, .val (.ref b6), .val (.int (own_f6 (FP.l2d (own_lo p1 p2)))), .val (.int (1 : Int32)), .val (.int (1 : Int32)), .val (.ref b50)] [])) _
            refine XS.iconst X64.here hx rfl (hb hby at_171) ?_
            show Steps p.tables e below (T64.setTop (mkF m 172 #[.val (.int p1), .val (.int p2), .val (.int p3), .val (.int (0 : Int32)), .val (.long (own_lo p1 p2)), .second, .val (.long (own_hi p1 p2)), .second, .val (.double (FP.l2d (own_lo p1 p2))), .second, .val (.double (FP.l2d (own_hi p1 p2))), .second, .val (.ref b6), .val (.int (own_f6 (FP.l2d (own_lo p1 p2)))), .val (.int (1 : Int32)), .val (.int (1 : Int32)), .val (.ref b50)] [(.int (1 : Int32))])) _
            refine XS.goto X64.here hx rfl (pc0 := 172) (pc' := 176) rfl (hb hby at_172) (by decide) (by decide) ?_
            show Steps p.tables e below (T64.setTop (mkF m 176 #[.val (.int p1), .val (.int p2), .val (.int p3), .val (.int (0 : Int32)), .val (.long (own_lo p1 p2)), .second, .val (.long (own_hi p1 p2)), .second, .val (.double (FP.l2d (own_lo p1 p2))), .second, .val (.double (FP.l2d (own_hi p1 p2))), .second, .val (.ref b6), .val (.int (own_f6 (FP.l2d (own_lo p1 p2)))), .val (.int (1 : Int32)), .val (.int (1 : Int32)), .val (.ref b50)] [(.int (1 : Int32))])) _
            refine XS.istore X64.here hx rfl (hb hby at_176) rfl (l' := #[.val (.int p1), .val (.int p2), .val (.int p3), .val (.int (0 : Int32)), .val (.long (own_lo p1 p2)), .second, .val (.long (own_hi p1 p2)), .second, .val (.double (FP.l2d (own_lo p1 p2))), .second, .val (.double (FP.l2d (own_hi p1 p2))), .second, .val (.ref b6), .val (.int (own_f6 (FP.l2d (own_lo p1 p2)))), .val (.int (1 : Int32)), .val (.int (1 : Int32)), .val (.ref b50)]) rfl ?_
            show Steps p.tables e below (T64.setTop (mkF m 178 #[.val (.int p1), .val (.int p2), .val (.int p3), .val (.int (0 : Int32)), .val (.long (own_lo p1 p2)), .second, .val (.long (own_hi p1 p2)), .second, .val (.double (FP.l2d (own_lo p1 p2))), .second, .val (.double (FP.l2d (own_hi p1 p2))), .second, .val (.ref b6), .val (.int (own_f6 (FP.l2d (own_lo p1 p2)))), .val (.int (1 : Int32)), .val (.int (1 : Int32)), .val (.ref b50)] [])) _
            refine XS.iload X64.here hx rfl (hb hby at_178) rfl ?_
            show Steps p.tables e below (T64.setTop (mkF m 180 #[.val (.int p1), .val (.int p2), .val (.int p3), .val (.int (0 : Int32)), .val (.long (own_lo p1 p2)), .second, .val (.long (own_hi p1 p2)), .second, .val (.double (FP.l2d (own_lo p1 p2))), .second, .val (.double (FP.l2d (own_hi p1 p2))), .second, .val (.ref b6), .val (.int (own_f6 (FP.l2d (own_lo p1 p2)))), .val (.int (1 : Int32)), .val (.int (1 : Int32)), .val (.ref b50)] [(.int (1 : Int32))])) _
            exact retN X64 hx (t := .boolean) Bd.returns (by simp) (hb hby at_180) hr
          · show own_Q0 Z p1 p2 p3 h0 n0 _ T64.heap _
            rw [e64]
            exact ⟨(by rw [own_f0, if_pos hc1, if_neg hc2, if_pos hc5, if_pos hc6]), N65⟩
        ·
          obtain ⟨fs, hr, hrun, hended, hW, hsame⟩ := X64.leave (hlocks := hlk) (v := some (.int (0 : Int32))) (fun h => by rw [Bd.returns] at h; cases h)
          refine ⟨_, _, k66 _ ?_, hrun, hended, _, _, rfl, ?_, ⟨_, rfl⟩, hW, hsame.mono (by decide) (by decide)⟩
          · show Steps p.tables e below (T64.setTop (mkF m 168 #[.val (.int p1), .val (.int p2), .val (.int p3), .val (.int (0 : Int32)), .val (.long (own_lo p1 p2)), .second, .val (.long (own_hi p1 p2)), .second, .val (.double (FP.l2d (own_lo p1 p2))), .second, .val (.double (FP.l2d (own_hi p1 p2))), .second, .val (.ref b6), .val (.int (own_f6 (FP.l2d (own_lo p1 p2)))), .val (.int (1 : Int32)), .val (.int (1 : Int32)), .val (.ref b50)] [(.int (own_f7 (FP.dsub FP.dconst1 (FP.l2d (own_lo p1 p2))))), (.int (own_f6 (FP.l2d (own_lo p1 p2))))])) _
            refine XS.icmpYes X64.here hx rfl (pc0 := 168) (pc' := 175) rfl (hb hby at_168) rfl (feq hc6).2 (by decide) (by decide) ?_
            show Steps p.tables e below (T64.setTop (mkF m 175 #[.val (.int p1), .val (.int p2), .val (.int p3), .val (.int (0 : Int32)), .val (.long (own_lo p1 p2)), .second, .val (.long (own_hi p1 p2)), .second, .val (.double (FP.l2d (own_lo p1 p2))), .second, .val (.double (FP.l2d (own_hi p1 p2))), .second, .val (.ref b6), .val (.int (own_f6 (FP.l2d (own_lo p1 p2)))), .val (.int (1 : Int32)), .val (.int (1 : Int32)), .val (.ref b50)] [])) _
            refine XS.iconst X64.here hx rfl (hb hby at_175) ?_
            show Steps p.tables e below (T64.setTop (mkF m 176 #[.val (.int p1), .val (.int p2), .val (.int p3), .val (.int (0 : Int32)), .val (.long (own_lo p1 p2)), .second, .val (.long (own_hi p1 p2)), .second, .val (.double (FP.l2d (own_lo p1 p2))), .second, .val (.double (FP.l2d (own_hi p1 p2))), .second, .val (.ref b6), .val (.int (own_f6 (FP.l2d (own_lo p1 p2)))), .val (.int (1 : Int32)), .val (.int (1 : Int32)), .val (.ref b50)] [(.int (0 : Int32))])) _
            refine XS.istore X64.here hx rfl (hb hby at_176) rfl (l' := #[.val (.int p1), .val (.int p2), .val (.int p3), .val (.int (0 : Int32)), .val (.long (own_lo p1 p2)), .second, .val (.long (own_hi p1 p2)), .second, .val (.double (FP.l2d (own_lo p1 p2))), .second, .val (.double (FP.l2d (own_hi p1 p2))), .second, .val (.ref b6), .val (.int (own_f6 (FP.l2d (own_lo p1 p2)))), .val (.int (1 : Int32)), .val (.int (0 : Int32)), .val (.ref b50)]) rfl ?_
            show Steps p.tables e below (T64.setTop (mkF m 178 #[.val (.int p1), .val (.int p2), .val (.int p3), .val (.int (0 : Int32)), .val (.long (own_lo p1 p2)), .second, .val (.long (own_hi p1 p2)), .second, .val (.double (FP.l2d (own_lo p1 p2))), .second, .val (.double (FP.l2d (own_hi p1 p2))), .second, .val (.ref b6), .val (.int (own_f6 (FP.l2d (own_lo p1 p2)))), .val (.int (1 : Int32)), .val (.int (0 : Int32)), .val (.ref b50)] [])) _
            refine XS.iload X64.here hx rfl (hb hby at_178) rfl ?_
            show Steps p.tables e below (T64.setTop (mkF m 180 #[.val (.int p1), .val (.int p2), .val (.int p3), .val (.int (0 : Int32)), .val (.long (own_lo p1 p2)), .second, .val (.long (own_hi p1 p2)), .second, .val (.double (FP.l2d (own_lo p1 p2))), .second, .val (.double (FP.l2d (own_hi p1 p2))), .second, .val (.ref b6), .val (.int (own_f6 (FP.l2d (own_lo p1 p2)))), .val (.int (1 : Int32)), .val (.int (0 : Int32)), .val (.ref b50)] [(.int (0 : Int32))])) _
            exact retN X64 hx (t := .boolean) Bd.returns (by simp) (hb hby at_180) hr
          · show own_Q0 Z p1 p2 p3 h0 n0 _ T64.heap _
            rw [e64]
            exact ⟨(by rw [own_f0, if_pos hc1, if_neg hc2, if_pos hc5, if_neg hc6]), N65⟩
      ·
        obtain ⟨T67, h67, X67, e67, E67, A67, D67, -, st67⟩ := newO X14 hx hZ hown (hw _ (List.mem_of_getElem? (i := 7) rfl)) (hw _ (List.mem_of_getElem? (i := 8) rfl)) (hw _ (List.mem_of_getElem? (i := 9) rfl)) e14 (g := (mkF m 139 #[.val (.int p1), .val (.int p2), .val (.int p3), .val (.int (0 : Int32)), .val (.long (own_lo p1 p2)), .second, .val (.long (own_hi p1 p2)), .second, .val (.double (FP.l2d (own_lo p1 p2))), .second, .val (.double (FP.l2d (own_hi p1 p2))), .second, .val (.ref b6), .val (.int (own_f6 (FP.l2d (own_lo p1 p2)))), .val (.int (1 : Int32)), .val (.int (0 : Int32)), .unset] [])) rfl (hb hby at_139) (by decide) (by decide)
        obtain ⟨b67, g67⟩ : ∃ z, z = T8.heap.size := ⟨_, rfl⟩
        rw [← g67] at A67 D67 st67
        have ne_b6_b67 : b6 ≠ b67 := Nat.ne_of_lt (Nat.lt_of_lt_of_le Q8_0.lt (Nat.le_of_eq g67.symm))
        have g_b67 : n0 ≤ b67 := Nat.le_trans Z12 (Nat.le_of_eq g67.symm)
        have f68 := Q8_0.ext E67
        have f69 := Q8_1.ext E67
        have f70 := Q8_2.ext E67
        have Z71 := Nat.le_trans Z12 E67.1
        have F_low_b67 : Fld Z h67 b67 "com/example/edgbaston/edgbaston/model/Interval" "low" "D" (.double (0 : UInt64)) := D67 (Or.inr (hw _ (List.mem_of_getElem? (i := 22) rfl))) (ty := .double) (by decide)
        have F_high_b67 : Fld Z h67 b67 "com/example/edgbaston/edgbaston/model/Interval" "high" "D" (.double (0 : UInt64)) := D67 (Or.inr (hw _ (List.mem_of_getElem? (i := 24) rfl))) (ty := .double) (by decide)
        obtain ⟨v72, _, ⟨T72, L72, k72, n72⟩, -, X72, ⟨Lc72, hQ72, l72, y72, z72⟩, st72⟩ := X67.specialBack hx (y := (⟨"com/example/edgbaston/edgbaston/model/Interval", "<init>", "(DD)V"⟩ : MethodName)) rfl hown (mvT hZ (hw _ (List.mem_of_getElem? (i := 10) rfl))) (mvT hZ (hw _ (List.mem_of_getElem? (i := 11) rfl))) (mvT hZ (hw _ (List.mem_of_getElem? (i := 12) rfl))) (by decide) (backOf (W := 1) (own_rm3 l Z a0 hw [] b67 (FP.dsub FP.dconst1 (FP.l2d (own_hi p1 p2))) (FP.dsub FP.dconst1 (FP.l2d (own_lo p1 p2))) (0 : UInt64) (0 : UInt64) h67 n0 Z71 A67 F_low_b67 g_b67 F_high_b67) hZ (hw _ (List.mem_of_getElem? (i := 12) rfl)) (hw _ (List.mem_of_getElem? (i := 9) rfl)) (by decide) (by decide)) (g := (mkF m 151 #[.val (.int p1), .val (.int p2), .val (.int p3), .val (.int (0 : Int32)), .val (.long (own_lo p1 p2)), .second, .val (.long (own_hi p1 p2)), .second, .val (.double (FP.l2d (own_lo p1 p2))), .second, .val (.double (FP.l2d (own_hi p1 p2))), .second, .val (.ref b6), .val (.int (own_f6 (FP.l2d (own_lo p1 p2)))), .val (.int (1 : Int32)), .val (.int (0 : Int32)), .unset] [(.double (FP.dsub FP.dconst1 (FP.l2d (own_lo p1 p2)))), (.double (FP.dsub FP.dconst1 (FP.l2d (own_hi p1 p2)))), (.ref b67), (.ref b67)])) rfl (by rw [hml]; rfl) (Steps.refl _) (a := b67) (argsL := [(.double (FP.dsub FP.dconst1 (FP.l2d (own_hi p1 p2)))), (.double (FP.dsub FP.dconst1 (FP.l2d (own_lo p1 p2))))]) (rest := [(.ref b67)]) (lenOf own_pd52 rfl) rfl (by show 2 * 0 + _ ≤ _; exact Nat.le_of_eq rfl) (hb hby at_151) (fun _ _ => ⟨rfl, e67, (by decide : 2 + 0 ≤ _), (by decide : 4 + 0 ≤ _)⟩)
        dsimp only [Pt.U, Pt.locs, Pt.cells, Pt.slots] at X72 l72 y72 z72 st72 hQ72
        subst l72 y72 z72
        obtain ⟨rfl, N72q, K72, Q72_0, Q72_1, Q72_2⟩ := hQ72
        have f73 := f68.keep K72
        have f74 := f69.keep K72 (ninS ne_b6_b67 nin0)
        have f75 := f70.keep K72 (ninS ne_b6_b67 nin0)
        have f76 := A67.keep K72
        have Z79 := Nat.le_trans Z71 K72.1
        have N80 := Fr.app N15 N72q
        obtain ⟨fs, hr, hrun, hended, hW, hsame⟩ := X72.leave (hlocks := hlk) (v := some (.int (0 : Int32))) (fun h => by rw [Bd.returns] at h; cases h)
        refine ⟨_, _, k49 _ ?_, hrun, hended, _, _, rfl, ?_, ⟨_, rfl⟩, hW, hsame.mono (by decide) (by decide)⟩
        · show Steps p.tables e below (T14.setTop (mkF m 125 #[.val (.int p1), .val (.int p2), .val (.int p3), .val (.int (0 : Int32)), .val (.long (own_lo p1 p2)), .second, .val (.long (own_hi p1 p2)), .second, .val (.double (FP.l2d (own_lo p1 p2))), .second, .val (.double (FP.l2d (own_hi p1 p2))), .second, .val (.ref b6), .val (.int (own_f6 (FP.l2d (own_lo p1 p2)))), .val (.int (1 : Int32)), .unset, .unset] [(.int (1 : Int32)), (.int (own_f6 (FP.l2d (own_lo p1 p2))))])) _
          refine XS.icmpYes X14.here hx rfl (pc0 := 125) (pc' := 132) rfl (hb hby at_125) rfl (feq hc5).2 (by decide) (by decide) ?_
          show Steps p.tables e below (T14.setTop (mkF m 132 #[.val (.int p1), .val (.int p2), .val (.int p3), .val (.int (0 : Int32)), .val (.long (own_lo p1 p2)), .second, .val (.long (own_hi p1 p2)), .second, .val (.double (FP.l2d (own_lo p1 p2))), .second, .val (.double (FP.l2d (own_hi p1 p2))), .second, .val (.ref b6), .val (.int (own_f6 (FP.l2d (own_lo p1 p2)))), .val (.int (1 : Int32)), .unset, .unset] [])) _
          refine XS.iconst X14.here hx rfl (hb hby at_132) ?_
          show Steps p.tables e below (T14.setTop (mkF m 133 #[.val (.int p1), .val (.int p2), .val (.int p3), .val (.int (0 : Int32)), .val (.long (own_lo p1 p2)), .second, .val (.long (own_hi p1 p2)), .second, .val (.double (FP.l2d (own_lo p1 p2))), .second, .val (.double (FP.l2d (own_hi p1 p2))), .second, .val (.ref b6), .val (.int (own_f6 (FP.l2d (own_lo p1 p2)))), .val (.int (1 : Int32)), .unset, .unset] [(.int (0 : Int32))])) _
          refine XS.istore X14.here hx rfl (hb hby at_133) rfl (l' := #[.val (.int p1), .val (.int p2), .val (.int p3), .val (.int (0 : Int32)), .val (.long (own_lo p1 p2)), .second, .val (.long (own_hi p1 p2)), .second, .val (.double (FP.l2d (own_lo p1 p2))), .second, .val (.double (FP.l2d (own_hi p1 p2))), .second, .val (.ref b6), .val (.int (own_f6 (FP.l2d (own_lo p1 p2)))), .val (.int (1 : Int32)), .val (.int (0 : Int32)), .unset]) rfl ?_
          show Steps p.tables e below (T14.setTop (mkF m 135 #[.val (.int p1), .val (.int p2), .val (.int p3), .val (.int (0 : Int32)), .val (.long (own_lo p1 p2)), .second, .val (.long (own_hi p1 p2)), .second, .val (.double (FP.l2d (own_lo p1 p2))), .second, .val (.double (FP.l2d (own_hi p1 p2))), .second, .val (.ref b6), .val (.int (own_f6 (FP.l2d (own_lo p1 p2)))), .val (.int (1 : Int32)), .val (.int (0 : Int32)), .unset] [])) _
          refine XS.iloadN X14.here hx rfl (hb hby at_135) rfl ?_
          show Steps p.tables e below (T14.setTop (mkF m 136 #[.val (.int p1), .val (.int p2), .val (.int p3), .val (.int (0 : Int32)), .val (.long (own_lo p1 p2)), .second, .val (.long (own_hi p1 p2)), .second, .val (.double (FP.l2d (own_lo p1 p2))), .second, .val (.double (FP.l2d (own_hi p1 p2))), .second, .val (.ref b6), .val (.int (own_f6 (FP.l2d (own_lo p1 p2)))), .val (.int (1 : Int32)), .val (.int (0 : Int32)), .unset] [(.int (0 : Int32))])) _
          refine XS.ifNo X14.here hx rfl (hb hby at_136) rfl ((if0 _ _).trans (teq (by decide : (0 : Int32) = (0 : Int32))).2) ?_
          show Steps p.tables e below (T14.setTop (mkF m 139 #[.val (.int p1), .val (.int p2), .val (.int p3), .val (.int (0 : Int32)), .val (.long (own_lo p1 p2)), .second, .val (.long (own_hi p1 p2)), .second, .val (.double (FP.l2d (own_lo p1 p2))), .second, .val (.double (FP.l2d (own_hi p1 p2))), .second, .val (.ref b6), .val (.int (own_f6 (FP.l2d (own_lo p1 p2)))), .val (.int (1 : Int32)), .val (.int (0 : Int32)), .unset] [])) _
          refine st67 _ ?_
          show Steps p.tables e below (T67.setTop (mkF m 142 #[.val (.int p1), .val (.int p2), .val (.int p3), .val (.int (0 : Int32)), .val (.long (own_lo p1 p2)), .second, .val (.long (own_hi p1 p2)), .second, .val (.double (FP.l2d (own_lo p1 p2))), .second, .val (.double (FP.l2d (own_hi p1 p2))), .second, .val (.ref b6), .val (.int (own_f6 (FP.l2d (own_lo p1 p2)))), .val (.int (1 : Int32)), .val (.int (0 : Int32)), .unset] [(.ref b67)])) _
          refine XS.dup X67.here hx rfl (hb hby at_142) rfl rfl ?_
          show Steps p.tables e below (T67.setTop (mkF m 143 #[.val (.int p1), .val (.int p2), .val (.int p3), .val (.int (0 : Int32)), .val (.long (own_lo p1 p2)), .second, .val (.long (own_hi p1 p2)), .second, .val (.double (FP.l2d (own_lo p1 p2))), .second, .val (.double (FP.l2d (own_hi p1 p2))), .second, .val (.ref b6), .val (.int (own_f6 (FP.l2d (own_lo p1 p2)))), .val (.int (1 : Int32)), .val (.int (0 : Int32)), .unset] [(.ref b67), (.ref b67)])) _
          refine XS.dconst1 X67.here hx rfl (hb hby at_143) rfl ?_
          show Steps p.tables e below (T67.setTop (mkF m 144 #[.val (.int p1), .val (.int p2), .val (.int p3), .val (.int (0 : Int32)), .val (.long (own_lo p1 p2)), .second, .val (.long (own_hi p1 p2)), .second, .val (.double (FP.l2d (own_lo p1 p2))), .second, .val (.double (FP.l2d (own_hi p1 p2))), .second, .val (.ref b6), .val (.int (own_f6 (FP.l2d (own_lo p1 p2)))), .val (.int (1 : Int32)), .val (.int (0 : Int32)), .unset] [(.double FP.dconst1), (.ref b67), (.ref b67)])) _
          refine XS.dload X67.here hx rfl (hb hby at_144) rfl ?_
          show Steps p.tables e below (T67.setTop (mkF m 146 #[.val (.int p1), .val (.int p2), .val (.int p3), .val (.int (0 : Int32)), .val (.long (own_lo p1 p2)), .second, .val (.long (own_hi p1 p2)), .second, .val (.double (FP.l2d (own_lo p1 p2))), .second, .val (.double (FP.l2d (own_hi p1 p2))), .second, .val (.ref b6), .val (.int (own_f6 (FP.l2d (own_lo p1 p2)))), .val (.int (1 : Int32)), .val (.int (0 : Int32)), .unset] [(.double (FP.l2d (own_hi p1 p2))), (.double FP.dconst1), (.ref b67), (.ref b67)])) _
          refine XS.dsubS X67.here hx rfl (hb hby at_146) rfl (own_nan_dsub _) rfl ?_
          show Steps p.tables e below (T67.setTop (mkF m 147 #[.val (.int p1), .val (.int p2), .val (.int p3), .val (.int (0 : Int32)), .val (.long (own_lo p1 p2)), .second, .val (.long (own_hi p1 p2)), .second, .val (.double (FP.l2d (own_lo p1 p2))), .second, .val (.double (FP.l2d (own_hi p1 p2))), .second, .val (.ref b6), .val (.int (own_f6 (FP.l2d (own_lo p1 p2)))), .val (.int (1 : Int32)), .val (.int (0 : Int32)), .unset] [(.double (FP.dsub FP.dconst1 (FP.l2d (own_hi p1 p2)))), (.ref b67), (.ref b67)])) _
          refine XS.dconst1 X67.here hx rfl (hb hby at_147) rfl ?_
          show Steps p.tables e below (T67.setTop (mkF m 148 #[.val (.int p1), .val (.int p2), .val (.int p3), .val (.int (0 : Int32)), .val (.long (own_lo p1 p2)), .second, .val (.long (own_hi p1 p2)), .second, .val (.double (FP.l2d (own_lo p1 p2))), .second, .val (.double (FP.l2d (own_hi p1 p2))), .second, .val (.ref b6), .val (.int (own_f6 (FP.l2d (own_lo p1 p2)))), .val (.int (1 : Int32)), .val (.int (0 : Int32)), .unset] [(.double FP.dconst1), (.double (FP.dsub FP.dconst1 (FP.l2d (own_hi p1 p2)))), (.ref b67), (.ref b67)])) _
          refine XS.dload X67.here hx rfl (hb hby at_148) rfl ?_
          show Steps p.tables e below (T67.setTop (mkF m 150 #[.val (.int p1), .val (.int p2), .val (.int p3), .val (.int (0 : Int32)), .val (.long (own_lo p1 p2)), .second, .val (.long (own_hi p1 p2)), .second, .val (.double (FP.l2d (own_lo p1 p2))), .second, .val (.double (FP.l2d (own_hi p1 p2))), .second, .val (.ref b6), .val (.int (own_f6 (FP.l2d (own_lo p1 p2)))), .val (.int (1 : Int32)), .val (.int (0 : Int32)), .unset] [(.double (FP.l2d (own_lo p1 p2))), (.double FP.dconst1), (.double (FP.dsub FP.dconst1 (FP.l2d (own_hi p1 p2)))), (.ref b67), (.ref b67)])) _
          refine XS.dsubS X67.here hx rfl (hb hby at_150) rfl (own_nan_dsub _) rfl ?_
          show Steps p.tables e below (T67.setTop (mkF m 151 #[.val (.int p1), .val (.int p2), .val (.int p3), .val (.int (0 : Int32)), .val (.long (own_lo p1 p2)), .second, .val (.long (own_hi p1 p2)), .second, .val (.double (FP.l2d (own_lo p1 p2))), .second, .val (.double (FP.l2d (own_hi p1 p2))), .second, .val (.ref b6), .val (.int (own_f6 (FP.l2d (own_lo p1 p2)))), .val (.int (1 : Int32)), .val (.int (0 : Int32)), .unset] [(.double (FP.dsub FP.dconst1 (FP.l2d (own_lo p1 p2)))), (.double (FP.dsub FP.dconst1 (FP.l2d (own_hi p1 p2)))), (.ref b67), (.ref b67)])) _
          refine st72.trans ?_
          show Steps p.tables e below (T72.setTop (mkF m 154 #[.val (.int p1), .val (.int p2), .val (.int p3), .val (.int (0 : Int32)), .val (.long (own_lo p1 p2)), .second, .val (.long (own_hi p1 p2)), .second, .val (.double (FP.l2d (own_lo p1 p2))), .second, .val (.double (FP.l2d (own_hi p1 p2))), .second, .val (.ref b6), .val (.int (own_f6 (FP.l2d (own_lo p1 p2)))), .val (.int (1 : Int32)), .val (.int (0 : Int32)), .unset] [(.ref b67)])) _
          refine XS.astore X72.here hx rfl (hb hby at_154) rfl rfl (l' := #[.val (.int p1), .val (.int p2), .val (.int p3), .val (.int (0 : Int32)), .val (.long (own_lo p1 p2)), .second, .val (.long (own_hi p1 p2)), .second, .val (.double (FP.l2d (own_lo p1 p2))), .second, .val (.double (FP.l2d (own_hi p1 p2))), .second, .val (.ref b6), .val (.int (own_f6 (FP.l2d (own_lo p1 p2)))), .val (.int (1 : Int32)), .val (.int (0 : Int32)), .val (.ref b67)]) rfl ?_
          show Steps p.tables e below (T72.setTop (mkF m 156 #[.val (.int p1), .val (.int p2), .val (.int p3), .val (.int (0 : Int32)), .val (.long (own_lo p1 p2)), .second, .val (.long (own_hi p1 p2)), .second, .val (.double (FP.l2d (own_lo p1 p2))), .second, .val (.double (FP.l2d (own_hi p1 p2))), .second, .val (.ref b6), .val (.int (own_f6 (FP.l2d (own_lo p1 p2)))), .val (.int (1 : Int32)), .val (.int (0 : Int32)), .val (.ref b67)] [])) _
          refine XS.iload X72.here hx rfl (hb hby at_156) rfl ?_
          show Steps p.tables e below (T72.setTop (mkF m 158 #[.val (.int p1), .val (.int p2), .val (.int p3), .val (.int (0 : Int32)), .val (.long (own_lo p1 p2)), .second, .val (.long (own_hi p1 p2)), .second, .val (.double (FP.l2d (own_lo p1 p2))), .second, .val (.double (FP.l2d (own_hi p1 p2))), .second, .val (.ref b6), .val (.int (own_f6 (FP.l2d (own_lo p1 p2)))), .val (.int (1 : Int32)), .val (.int (0 : Int32)), .val (.ref b67)] [(.int (0 : Int32))])) _
          refine XS.ifYes X72.here hx rfl (pc0 := 158) (pc' := 175) rfl (hb hby at_158) rfl ((if0 _ _).trans (teq (by decide : (0 : Int32) = (0 : Int32))).1) (by decide) (by decide) ?_
          show Steps p.tables e below (T72.setTop (mkF m 175 #[.val (.int p1), .val (.int p2), .val (.int p3), .val (.int (0 : Int32)), .val (.long (own_lo p1 p2)), .second, .val (.long (own_hi p1 p2)), .second, .val (.double (FP.l2d (own_lo p1 p2))), .second, .val (.double (FP.l2d (own_hi p1 p2))), .second, .val (.ref b6), .val (.int (own_f6 (FP.l2d (own_lo p1 p2)))), .val (.int (1 : Int32)), .val (.int (0 : Int32)), .val (.ref b67)] [])) _
          refine XS.iconst X72.here hx rfl (hb hby at_175) ?_
          show Steps p.tables e below (T72.setTop (mkF m 176 #[.val (.int p1), .val (.int p2), .val (.int p3), .val (.int (0 : Int32)), .val (.long (own_lo p1 p2)), .second, .val (.long (own_hi p1 p2)), .second, .val (.double (FP.l2d (own_lo p1 p2))), .second, .val (.double (FP.l2d (own_hi p1 p2))), .second, .val (.ref b6), .val (.int (own_f6 (FP.l2d (own_lo p1 p2)))), .val (.int (1 : Int32)), .val (.int (0 : Int32)), .val (.ref b67)] [(.int (0 : Int32))])) _
          refine XS.istore X72.here hx rfl (hb hby at_176) rfl (l' := #[.val (.int p1), .val (.int p2), .val (.int p3), .val (.int (0 : Int32)), .val (.long (own_lo p1 p2)), .second, .val (.long (own_hi p1 p2)), .second, .val (.double (FP.l2d (own_lo p1 p2))), .second, .val (.double (FP.l2d (own_hi p1 p2))), .second, .val (.ref b6), .val (.int (own_f6 (FP.l2d (own_lo p1 p2)))), .val (.int (1 : Int32)), .val (.int (0 : Int32)), .val (.ref b67)]) rfl ?_
          show Steps p.tables e below (T72.setTop (mkF m 178 #[.val (.int p1), .val (.int p2), .val (.int p3), .val (.int (0 : Int32)), .val (.long (own_lo p1 p2)), .second, .val (.long (own_hi p1 p2)), .second, .val (.double (FP.l2d (own_lo p1 p2))), .second, .val (.double (FP.l2d (own_hi p1 p2))), .second, .val (.ref b6), .val (.int (own_f6 (FP.l2d (own_lo p1 p2)))), .val (.int (1 : Int32)), .val (.int (0 : Int32)), .val (.ref b67)] [])) _
          refine XS.iload X72.here hx rfl (hb hby at_178) rfl ?_
          show Steps p.tables e below (T72.setTop (mkF m 180 #[.val (.int p1), .val (.int p2), .val (.int p3), .val (.int (0 : Int32)), .val (.long (own_lo p1 p2)), .second, .val (.long (own_hi p1 p2)), .second, .val (.double (FP.l2d (own_lo p1 p2))), .second, .val (.double (FP.l2d (own_hi p1 p2))), .second, .val (.ref b6), .val (.int (own_f6 (FP.l2d (own_lo p1 p2)))), .val (.int (1 : Int32)), .val (.int (0 : Int32)), .val (.ref b67)] [(.int (0 : Int32))])) _
          exact retN X72 hx (t := .boolean) Bd.returns (by simp) (hb hby at_180) hr
        · show own_Q0 Z p1 p2 p3 h0 n0 _ T72.heap _
          exact ⟨(by rw [own_f0, if_pos hc1, if_neg hc2, if_neg hc5]), N80⟩
  ·
    obtain ⟨v81, _, ⟨T81, L81, k81, n81⟩, -, X81, ⟨Lc81, hQ81, l81, y81, z81⟩, st81⟩ := Jvm.LawKit.callS X0 hx (y := (⟨"java/lang/Math", "min", "(II)I"⟩ : MethodName)) hown (mvT hZ (hw _ (List.mem_of_getElem? (i := 0) rfl))) (mvT hZ (hw _ (List.mem_of_getElem? (i := 1) rfl))) (mvT hZ (hw _ (List.mem_of_getElem? (i := 2) rfl))) (mvT hZ (hw _ (List.mem_of_getElem? (i := 3) rfl))) (by decide) (backOf (W := 0) (own_rm1 l Z a0 hw [] p1 p2 h0 n0 Z0) hZ (hw _ (List.mem_of_getElem? (i := 3) rfl)) (hw _ (List.mem_of_getElem? (i := 2) rfl)) (by decide) (by decide)) (g := (mkF m 14 #[.val (.int p1), .val (.int p2), .val (.int p3), .val (.int (1 : Int32)), .unset, .unset, .unset, .unset, .unset, .unset, .unset, .unset, .unset, .unset, .unset, .unset, .unset] [(.int p2), (.int p1)])) rfl (by rw [hml]; rfl) (argsL := [(.int p1), (.int p2)]) (rest := []) (lenOf own_pd49 rfl) rfl (by show 2 * 0 + _ ≤ _; exact Nat.le_of_eq rfl) (hb hby at_14) (fun _ _ => ⟨rfl, e0, (by decide : 0 + 0 ≤ _), (by decide : 0 + 0 ≤ _)⟩)
    dsimp only [Pt.U, Pt.locs, Pt.cells, Pt.slots] at X81 l81 y81 z81 st81 hQ81
    subst l81 y81 z81
    obtain ⟨rfl, N81q, e81⟩ := hQ81
    have N82 := Fr.app N0 N81q
    obtain ⟨v83, _, ⟨T83, L83, k83, n83⟩, -, X83, ⟨Lc83, hQ83, l83, y83, z83⟩, st83⟩ := Jvm.LawKit.callS X81 hx (y := (⟨"java/lang/Math", "max", "(II)I"⟩ : MethodName)) hown (mvT hZ (hw _ (List.mem_of_getElem? (i := 4) rfl))) (mvT hZ (hw _ (List.mem_of_getElem? (i := 5) rfl))) (mvT hZ (hw _ (List.mem_of_getElem? (i := 2) rfl))) (mvT hZ (hw _ (List.mem_of_getElem? (i := 6) rfl))) (by decide) (backOf (W := 0) (own_rm2 l Z a0 hw [] p1 p2 h0 n0 Z0) hZ (hw _ (List.mem_of_getElem? (i := 6) rfl)) (hw _ (List.mem_of_getElem? (i := 2) rfl)) (by decide) (by decide)) (g := (mkF m 22 #[.val (.int p1), .val (.int p2), .val (.int p3), .val (.int (1 : Int32)), .val (.long (own_lo p1 p2)), .second, .unset, .unset, .unset, .unset, .unset, .unset, .unset, .unset, .unset, .unset, .unset] [(.int p2), (.int p1)])) rfl (by rw [hml]; rfl) (argsL := [(.int p1), (.int p2)]) (rest := []) (lenOf own_pd49 rfl) rfl (by show 2 * 0 + _ ≤ _; exact Nat.le_of_eq rfl) (hb hby at_22) (fun _ _ => ⟨rfl, e81, (by decide : 0 + 0 ≤ _), (by decide : 0 + 0 ≤ _)⟩)
    dsimp only [Pt.U, Pt.locs, Pt.cells, Pt.slots] at X83 l83 y83 z83 st83 hQ83
    subst l83 y83 z83
    obtain ⟨rfl, N83q, e83⟩ := hQ83
    have N84 := Fr.app N82 N83q
    obtain ⟨T85, h85, X85, e85, E85, A85, D85, -, st85⟩ := newO X83 hx hZ hown (hw _ (List.mem_of_getElem? (i := 7) rfl)) (hw _ (List.mem_of_getElem? (i := 8) rfl)) (hw _ (List.mem_of_getElem? (i := 9) rfl)) e83 (g := (mkF m 66 #[.val (.int p1), .val (.int p2), .val (.int p3), .val (.int (1 : Int32)), .val (.long (own_lo p1 p2)), .second, .val (.long (own_hi p1 p2)), .second, .val (.double (FP.ddiv (FP.l2d (own_lo p1 p2)) (4611686018427387904 : UInt64))), .second, .val (.double (FP.ddiv (FP.l2d (own_hi p1 p2)) (4611686018427387904 : UInt64))), .second, .unset, .unset, .unset, .unset, .unset] [])) rfl (hb hby at_66) (by decide) (by decide)
    obtain ⟨b85, g85⟩ : ∃ z, z = h0.size := ⟨_, rfl⟩
    rw [← g85] at A85 D85 st85
    have g_b85 : n0 ≤ b85 := Nat.le_trans Z0 (Nat.le_of_eq g85.symm)
    have Z86 := Nat.le_trans Z0 E85.1
    have F_low_b85 : Fld Z h85 b85 "com/example/edgbaston/edgbaston/model/Interval" "low" "D" (.double (0 : UInt64)) := D85 (Or.inr (hw _ (List.mem_of_getElem? (i := 22) rfl))) (ty := .double) (by decide)
    have F_high_b85 : Fld Z h85 b85 "com/example/edgbaston/edgbaston/model/Interval" "high" "D" (.double (0 : UInt64)) := D85 (Or.inr (hw _ (List.mem_of_getElem? (i := 24) rfl))) (ty := .double) (by decide)
    obtain ⟨v87, _, ⟨T87, L87, k87, n87⟩, -, X87, ⟨Lc87, hQ87, l87, y87, z87⟩, st87⟩ := X85.specialBack hx (y := (⟨"com/example/edgbaston/edgbaston/model/Interval", "<init>", "(DD)V"⟩ : MethodName)) rfl hown (mvT hZ (hw _ (List.mem_of_getElem? (i := 10) rfl))) (mvT hZ (hw _ (List.mem_of_getElem? (i := 11) rfl))) (mvT hZ (hw _ (List.mem_of_getElem? (i := 12) rfl))) (by decide) (backOf (W := 1) (own_rm3 l Z a0 hw [] b85 (FP.ddiv (FP.l2d (own_lo p1 p2)) (4611686018427387904 : UInt64)) (FP.ddiv (FP.l2d (own_hi p1 p2)) (4611686018427387904 : UInt64)) (0 : UInt64) (0 : UInt64) h85 n0 Z86 A85 F_low_b85 g_b85 F_high_b85) hZ (hw _ (List.mem_of_getElem? (i := 12) rfl)) (hw _ (List.mem_of_getElem? (i := 9) rfl)) (by decide) (by decide)) (g := (mkF m 74 #[.val (.int p1), .val (.int p2), .val (.int p3), .val (.int (1 : Int32)), .val (.long (own_lo p1 p2)), .second, .val (.long (own_hi p1 p2)), .second, .val (.double (FP.ddiv (FP.l2d (own_lo p1 p2)) (4611686018427387904 : UInt64))), .second, .val (.double (FP.ddiv (FP.l2d (own_hi p1 p2)) (4611686018427387904 : UInt64))), .second, .unset, .unset, .unset, .unset, .unset] [(.double (FP.ddiv (FP.l2d (own_hi p1 p2)) (4611686018427387904 : UInt64))), (.double (FP.ddiv (FP.l2d (own_lo p1 p2)) (4611686018427387904 : UInt64))), (.ref b85), (.ref b85)])) rfl (by rw [hml]; rfl) (Steps.refl _) (a := b85) (argsL := [(.double (FP.ddiv (FP.l2d (own_lo p1 p2)) (4611686018427387904 : UInt64))), (.double (FP.ddiv (FP.l2d (own_hi p1 p2)) (4611686018427387904 : UInt64)))]) (rest := [(.ref b85)]) (lenOf own_pd52 rfl) rfl (by show 2 * 0 + _ ≤ _; exact Nat.le_of_eq rfl) (hb hby at_74) (fun _ _ => ⟨rfl, e85, (by decide : 1 + 0 ≤ _), (by decide : 2 + 0 ≤ _)⟩)
    dsimp only [Pt.U, Pt.locs, Pt.cells, Pt.slots] at X87 l87 y87 z87 st87 hQ87
    subst l87 y87 z87
    obtain ⟨rfl, N87q, K87, Q87_0, Q87_1, Q87_2⟩ := hQ87
    have f88 := A85.keep K87
    have Z91 := Nat.le_trans Z86 K87.1
    have N92 := Fr.app N84 N87q
    obtain ⟨cq93, kq93, q93a, q93b, q93c⟩ := isOf hZ rfl Q87_0
    obtain ⟨v93, _, ⟨T93, L93, k93, n93⟩, -, X93, ⟨Lc93, hQ93, l93, y93, z93⟩, st93⟩ := X87.virtualBack hx (y := (⟨"com/example/edgbaston/edgbaston/model/Interval", "canBeFalse", "()Z"⟩ : MethodName)) (z := (⟨"com/example/edgbaston/edgbaston/model/Interval", "canBeFalse", "()Z"⟩ : MethodName)) hown (mvT hZ (hw _ (List.mem_of_getElem? (i := 25) rfl))) (mvT hZ (hw _ (List.mem_of_getElem? (i := 26) rfl))) (notFace_of_selects (args := #[]) (mvT hZ (hw _ (List.mem_of_getElem? (i := 28) rfl)))) (mvT hZ (hw _ (List.mem_of_getElem? (i := 28) rfl))) (mvT hZ (hw _ (List.mem_of_getElem? (i := 27) rfl))) (by decide) (backOf (W := 0) (own_rm6 l Z a0 hw [] b85 (FP.ddiv (FP.l2d (own_lo p1 p2)) (4611686018427387904 : UInt64)) T87.heap n0 Z91 Q87_1) hZ (hw _ (List.mem_of_getElem? (i := 29) rfl)) (hw _ (List.mem_of_getElem? (i := 9) rfl)) (by decide) (by decide)) q93a q93c (g := (mkF m 81 #[.val (.int p1), .val (.int p2), .val (.int p3), .val (.int (1 : Int32)), .val (.long (own_lo p1 p2)), .second, .val (.long (own_hi p1 p2)), .second, .val (.double (FP.ddiv (FP.l2d (own_lo p1 p2)) (4611686018427387904 : UInt64))), .second, .val (.double (FP.ddiv (FP.l2d (own_hi p1 p2)) (4611686018427387904 : UInt64))), .second, .val (.ref b85), .unset, .unset, .unset, .unset] [(.ref b85)])) rfl (by rw [hml]; rfl) (Steps.refl _) (argsL := []) (rest := []) (lenOf own_pd53 rfl) rfl (by show 2 * 0 + _ ≤ _; exact Nat.le_of_eq rfl) (hb hby at_81) (fun _ _ => ⟨rfl, rfl, (by decide : 1 + 0 ≤ _), (by decide : 2 + 0 ≤ _)⟩)
    dsimp only [Pt.U, Pt.locs, Pt.cells, Pt.slots] at X93 l93 y93 z93 st93 hQ93
    subst l93 y93 z93
    obtain ⟨rfl, N93q, e93⟩ := hQ93
    have N94 := Fr.app N92 N93q
    have k95 : ∀ t, Steps p.tables e below (T93.setTop (mkF m 96 #[.val (.int p1), .val (.int p2), .val (.int p3), .val (.int (1 : Int32)), .val (.long (own_lo p1 p2)), .second, .val (.long (own_hi p1 p2)), .second, .val (.double (FP.ddiv (FP.l2d (own_lo p1 p2)) (4611686018427387904 : UInt64))), .second, .val (.double (FP.ddiv (FP.l2d (own_hi p1 p2)) (4611686018427387904 : UInt64))), .second, .val (.ref b85), .val (.int (own_f6 (FP.ddiv (FP.l2d (own_lo p1 p2)) (4611686018427387904 : UInt64)))), .unset, .unset, .unset] [(.int (lcmpW (own_lo p1 p2) (2 : Int64)))])) t → Steps p.tables e below (s₁.setTop (entryFrame m #[(.int p1), (.int p2), (.int p3)] maxLocals)) t := by
      intro t kt
      refine k1 t ?_
      show Steps p.tables e below (s₁.setTop (mkF m 3 #[.val (.int p1), .val (.int p2), .val (.int p3), .unset, .unset, .unset, .unset, .unset, .unset, .unset, .unset, .unset, .unset, .unset, .unset, .unset, .unset] [(.int (p3 &&& (1 : Int32)))])) _
      refine XS.ifNo X0.here hx rfl (hb hby at_3) rfl ((if0 _ _).trans (feq hc1).1) ?_
      show Steps p.tables e below (s₁.setTop (mkF m 6 #[.val (.int p1), .val (.int p2), .val (.int p3), .unset, .unset, .unset, .unset, .unset, .unset, .unset, .unset, .unset, .unset, .unset, .unset, .unset, .unset] [])) _
      refine XS.iconst X0.here hx rfl (hb hby at_6) ?_
      show Steps p.tables e below (s₁.setTop (mkF m 7 #[.val (.int p1), .val (.int p2), .val (.int p3), .unset, .unset, .unset, .unset, .unset, .unset, .unset, .unset, .unset, .unset, .unset, .unset, .unset, .unset] [(.int (1 : Int32))])) _
      refine XS.goto X0.here hx rfl (pc0 := 7) (pc' := 11) rfl (hb hby at_7) (by decide) (by decide) ?_
      show Steps p.tables e below (s₁.setTop (mkF m 11 #[.val (.int p1), .val (.int p2), .val (.int p3), .unset, .unset, .unset, .unset, .unset, .unset, .unset, .unset, .unset, .unset, .unset, .unset, .unset, .unset] [(.int (1 : Int32))])) _
      refine XS.istoreN X0.here hx rfl (hb hby at_11) rfl (l' := #[.val (.int p1), .val (.int p2), .val (.int p3), .val (.int (1 : Int32)), .unset, .unset, .unset, .unset, .unset, .unset, .unset, .unset, .unset, .unset, .unset, .unset, .unset]) rfl ?_
      show Steps p.tables e below (s₁.setTop (mkF m 12 #[.val (.int p1), .val (.int p2), .val (.int p3), .val (.int (1 : Int32)), .unset, .unset, .unset, .unset, .unset, .unset, .unset, .unset, .unset, .unset, .unset, .unset, .unset] [])) _
      refine XS.iloadN X0.here hx rfl (hb hby at_12) rfl ?_
      show Steps p.tables e below (s₁.setTop (mkF m 13 #[.val (.int p1), .val (.int p2), .val (.int p3), .val (.int (1 : Int32)), .unset, .unset, .unset, .unset, .unset, .unset, .unset, .unset, .unset, .unset, .unset, .unset, .unset] [(.int p1)])) _
      refine XS.iloadN X0.here hx rfl (hb hby at_13) rfl ?_
      show Steps p.tables e below (s₁.setTop (mkF m 14 #[.val (.int p1), .val (.int p2), .val (.int p3), .val (.int (1 : Int32)), .unset, .unset, .unset, .unset, .unset, .unset, .unset, .unset, .unset, .unset, .unset, .unset, .unset] [(.int p2), (.int p1)])) _
      refine st81 _ ?_
      show Steps p.tables e below (T81.setTop (mkF m 17 #[.val (.int p1), .val (.int p2), .val (.int p3), .val (.int (1 : Int32)), .unset, .unset, .unset, .unset, .unset, .unset, .unset, .unset, .unset, .unset, .unset, .unset, .unset] [(.int (own_f1 p1 p2))])) _
      refine XS.i2l X81.here hx rfl (hb hby at_17) rfl ?_
      show Steps p.tables e below (T81.setTop (mkF m 18 #[.val (.int p1), .val (.int p2), .val (.int p3), .val (.int (1 : Int32)), .unset, .unset, .unset, .unset, .unset, .unset, .unset, .unset, .unset, .unset, .unset, .unset, .unset] [(.long (own_lo p1 p2))])) _
      refine XS.lstore X81.here hx rfl (hb hby at_18) rfl (l' := #[.val (.int p1), .val (.int p2), .val (.int p3), .val (.int (1 : Int32)), .val (.long (own_lo p1 p2)), .second, .unset, .unset, .unset, .unset, .unset, .unset, .unset, .unset, .unset, .unset, .unset]) rfl ?_
      show Steps p.tables e below (T81.setTop (mkF m 20 #[.val (.int p1), .val (.int p2), .val (.int p3), .val (.int (1 : Int32)), .val (.long (own_lo p1 p2)), .second, .unset, .unset, .unset, .unset, .unset, .unset, .unset, .unset, .unset, .unset, .unset] [])) _
      refine XS.iloadN X81.here hx rfl (hb hby at_20) rfl ?_
      show Steps p.tables e below (T81.setTop (mkF m 21 #[.val (.int p1), .val (.int p2), .val (.int p3), .val (.int (1 : Int32)), .val (.long (own_lo p1 p2)), .second, .unset, .unset, .unset, .unset, .unset, .unset, .unset, .unset, .unset, .unset, .unset] [(.int p1)])) _
      refine XS.iloadN X81.here hx rfl (hb hby at_21) rfl ?_
      show Steps p.tables e below (T81.setTop (mkF m 22 #[.val (.int p1), .val (.int p2), .val (.int p3), .val (.int (1 : Int32)), .val (.long (own_lo p1 p2)), .second, .unset, .unset, .unset, .unset, .unset, .unset, .unset, .unset, .unset, .unset, .unset] [(.int p2), (.int p1)])) _
      refine st83 _ ?_
      show Steps p.tables e below (T83.setTop (mkF m 25 #[.val (.int p1), .val (.int p2), .val (.int p3), .val (.int (1 : Int32)), .val (.long (own_lo p1 p2)), .second, .unset, .unset, .unset, .unset, .unset, .unset, .unset, .unset, .unset, .unset, .unset] [(.int (own_f2 p1 p2))])) _
      refine XS.i2l X83.here hx rfl (hb hby at_25) rfl ?_
      show Steps p.tables e below (T83.setTop (mkF m 26 #[.val (.int p1), .val (.int p2), .val (.int p3), .val (.int (1 : Int32)), .val (.long (own_lo p1 p2)), .second, .unset, .unset, .unset, .unset, .unset, .unset, .unset, .unset, .unset, .unset, .unset] [(.long (own_hi p1 p2))])) _
      refine XS.lstore X83.here hx rfl (hb hby at_26) rfl (l' := #[.val (.int p1), .val (.int p2), .val (.int p3), .val (.int (1 : Int32)), .val (.long (own_lo p1 p2)), .second, .val (.long (own_hi p1 p2)), .second, .unset, .unset, .unset, .unset, .unset, .unset, .unset, .unset, .unset]) rfl ?_
      show Steps p.tables e below (T83.setTop (mkF m 28 #[.val (.int p1), .val (.int p2), .val (.int p3), .val (.int (1 : Int32)), .val (.long (own_lo p1 p2)), .second, .val (.long (own_hi p1 p2)), .second, .unset, .unset, .unset, .unset, .unset, .unset, .unset, .unset, .unset] [])) _
      refine XS.iloadN X83.here hx rfl (hb hby at_28) rfl ?_
      show Steps p.tables e below (T83.setTop (mkF m 29 #[.val (.int p1), .val (.int p2), .val (.int p3), .val (.int (1 : Int32)), .val (.long (own_lo p1 p2)), .second, .val (.long (own_hi p1 p2)), .second, .unset, .unset, .unset, .unset, .unset, .unset, .unset, .unset, .unset] [(.int (1 : Int32))])) _
      refine XS.ifNo X83.here hx rfl (hb hby at_29) rfl ((if0 _ _).trans (feq (by decide : ¬ ((1 : Int32) = (0 : Int32)))).1) ?_
      show Steps p.tables e below (T83.setTop (mkF m 32 #[.val (.int p1), .val (.int p2), .val (.int p3), .val (.int (1 : Int32)), .val (.long (own_lo p1 p2)), .second, .val (.long (own_hi p1 p2)), .second, .unset, .unset, .unset, .unset, .unset, .unset, .unset, .unset, .unset] [])) _
      refine XS.lload X83.here hx rfl (hb hby at_32) rfl ?_
      show Steps p.tables e below (T83.setTop (mkF m 34 #[.val (.int p1), .val (.int p2), .val (.int p3), .val (.int (1 : Int32)), .val (.long (own_lo p1 p2)), .second, .val (.long (own_hi p1 p2)), .second, .unset, .unset, .unset, .unset, .unset, .unset, .unset, .unset, .unset] [(.long (own_lo p1 p2))])) _
      refine XS.l2dS X83.here hx rfl (hb hby at_34) rfl rfl ?_
      show Steps p.tables e below (T83.setTop (mkF m 35 #[.val (.int p1), .val (.int p2), .val (.int p3), .val (.int (1 : Int32)), .val (.long (own_lo p1 p2)), .second, .val (.long (own_hi p1 p2)), .second, .unset, .unset, .unset, .unset, .unset, .unset, .unset, .unset, .unset] [(.double (FP.l2d (own_lo p1 p2)))])) _
      refine X83.ldc2DoubleC hx hown (mvT hZ (hw _ (List.mem_of_getElem? (i := 35) rfl))) (g := (mkF m 35 #[.val (.int p1), .val (.int p2), .val (.int p3), .val (.int (1 : Int32)), .val (.long (own_lo p1 p2)), .second, .val (.long (own_hi p1 p2)), .second, .unset, .unset, .unset, .unset, .unset, .unset, .unset, .unset, .unset] [(.double (FP.l2d (own_lo p1 p2)))])) rfl (hb hby at_35) _ ?_
      show Steps p.tables e below (T83.setTop (mkF m 38 #[.val (.int p1), .val (.int p2), .val (.int p3), .val (.int (1 : Int32)), .val (.long (own_lo p1 p2)), .second, .val (.long (own_hi p1 p2)), .second, .unset, .unset, .unset, .unset, .unset, .unset, .unset, .unset, .unset] [(.double (4611686018427387904 : UInt64)), (.double (FP.l2d (own_lo p1 p2)))])) _
      refine XS.ddivS X83.here hx rfl (hb hby at_38) rfl (own_nan_ddiv _) rfl ?_
      show Steps p.tables e below (T83.setTop (mkF m 39 #[.val (.int p1), .val (.int p2), .val (.int p3), .val (.int (1 : Int32)), .val (.long (own_lo p1 p2)), .second, .val (.long (own_hi p1 p2)), .second, .unset, .unset, .unset, .unset, .unset, .unset, .unset, .unset, .unset] [(.double (FP.ddiv (FP.l2d (own_lo p1 p2)) (4611686018427387904 : UInt64)))])) _
      refine XS.goto X83.here hx rfl (pc0 := 39) (pc' := 45) rfl (hb hby at_39) (by decide) (by decide) ?_
      show Steps p.tables e below (T83.setTop (mkF m 45 #[.val (.int p1), .val (.int p2), .val (.int p3), .val (.int (1 : Int32)), .val (.long (own_lo p1 p2)), .second, .val (.long (own_hi p1 p2)), .second, .unset, .unset, .unset, .unset, .unset, .unset, .unset, .unset, .unset] [(.double (FP.ddiv (FP.l2d (own_lo p1 p2)) (4611686018427387904 : UInt64)))])) _
      refine XS.dstore X83.here hx rfl (hb hby at_45) rfl (l' := #[.val (.int p1), .val (.int p2), .val (.int p3), .val (.int (1 : Int32)), .val (.long (own_lo p1 p2)), .second, .val (.long (own_hi p1 p2)), .second, .val (.double (FP.ddiv (FP.l2d (own_lo p1 p2)) (4611686018427387904 : UInt64))), .second, .unset, .unset, .unset, .unset, .unset, .unset, .unset]) rfl ?_
      show Steps p.tables e below (T83.setTop (mkF m 47 #[.val (.int p1), .val (.int p2), .val (.int p3), .val (.int (1 : Int32)), .val (.long (own_lo p1 p2)), .second, .val (.long (own_hi p1 p2)), .second, .val (.double (FP.ddiv (FP.l2d (own_lo p1 p2)) (4611686018427387904 : UInt64))), .second, .unset, .unset, .unset, .unset, .unset, .unset, .unset] [])) _
      refine XS.iloadN X83.here hx rfl (hb hby at_47) rfl ?_
      show Steps p.tables e below (T83.setTop (mkF m 48 #[.val (.int p1), .val (.int p2), .val (.int p3), .val (.int (1 : Int32)), .val (.long (own_lo p1 p2)), .second, .val (.long (own_hi p1 p2)), .second, .val (.double (FP.ddiv (FP.l2d (own_lo p1 p2)) (4611686018427387904 : UInt64))), .second, .unset, .unset, .unset, .unset, .unset, .unset, .unset] [(.int (1 : Int32))])) _
      refine XS.ifNo X83.here hx rfl (hb hby at_48) rfl ((if0 _ _).trans (feq (by decide : ¬ ((1 : Int32) = (0 : Int32)))).1) ?_
      show Steps p.tables e below (T83.setTop (mkF m 51 #[.val (.int p1), .val (.int p2), .val (.int p3), .val (.int (1 : Int32)), .val (.long (own_lo p1 p2)), .second, .val (.long (own_hi p1 p2)), .second, .val (.double (FP.ddiv (FP.l2d (own_lo p1 p2)) (4611686018427387904 : UInt64))), .second, .unset, .unset, .unset, .unset, .unset, .unset, .unset] [])) _
      refine XS.lload X83.here hx rfl (hb hby at_51) rfl ?_
      show Steps p.tables e below (T83.setTop (mkF m 53 #[.val (.int p1), .val (.int p2), .val (.int p3), .val (.int (1 : Int32)), .val (.long (own_lo p1 p2)), .second, .val (.long (own_hi p1 p2)), .second, .val (.double (FP.ddiv (FP.l2d (own_lo p1 p2)) (4611686018427387904 : UInt64))), .second, .unset, .unset, .unset, .unset, .unset, .unset, .unset] [(.long (own_hi p1 p2))])) _
      refine XS.l2dS X83.here hx rfl (hb hby at_53) rfl rfl ?_
      show Steps p.tables e below (T83.setTop (mkF m 54 #[.val (.int p1), .val (.int p2), .val (.int p3), .val (.int (1 : Int32)), .val (.long (own_lo p1 p2)), .second, .val (.long (own_hi p1 p2)), .second, .val (.double (FP.ddiv (FP.l2d (own_lo p1 p2)) (4611686018427387904 : UInt64))), .second, .unset, .unset, .unset, .unset, .unset, .unset, .unset] [(.double (FP.l2d (own_hi p1 p2)))])) _
      refine X83.ldc2DoubleC hx hown (mvT hZ (hw _ (List.mem_of_getElem? (i := 35) rfl))) (g := (mkF m 54 #[.val (.int p1), .val (.int p2), .val (.int p3), .val (.int (1 : Int32)), .val (.long (own_lo p1 p2)), .second, .val (.long (own_hi p1 p2)), .second, .val (.double (FP.ddiv (FP.l2d (own_lo p1 p2)) (4611686018427387904 : UInt64))), .second, .unset, .unset, .unset, .unset, .unset, .unset, .unset] [(.double (FP.l2d (own_hi p1 p2)))])) rfl (hb hby at_54) _ ?_
      show Steps p.tables e below (T83.setTop (mkF m 57 #[.val (.int p1), .val (.int p2), .val (.int p3), .val (.int (1 : Int32)), .val (.long (own_lo p1 p2)), .second, .val (.long (own_hi p1 p2)), .second, .val (.double (FP.ddiv (FP.l2d (own_lo p1 p2)) (4611686018427387904 : UInt64))), .second, .unset, .unset, .unset, .unset, .unset, .unset, .unset] [(.double (4611686018427387904 : UInt64)), (.double (FP.l2d (own_hi p1 p2)))])) _
      refine XS.ddivS X83.here hx rfl (hb hby at_57) rfl (own_nan_ddiv _) rfl ?_
      show Steps p.tables e below (T83.setTop (mkF m 58 #[.val (.int p1), .val (.int p2), .val (.int p3), .val (.int (1 : Int32)), .val (.long (own_lo p1 p2)), .second, .val (.long (own_hi p1 p2)), .second, .val (.double (FP.ddiv (FP.l2d (own_lo p1 p2)) (4611686018427387904 : UInt64))), .second, .unset, .unset, .unset, .unset, .unset, .unset, .unset] [(.double (FP.ddiv (FP.l2d (own_hi p1 p2)) (4611686018427387904 : UInt64)))])) _
      refine XS.goto X83.here hx rfl (pc0 := 58) (pc' := 64) rfl (hb hby at_58) (by decide) (by decide) ?_
      show Steps p.tables e below (T83.setTop (mkF m 64 #[.val (.int p1), .val (.int p2), .val (.int p3), .val (.int (1 : Int32)), .val (.long (own_lo p1 p2)), .second, .val (.long (own_hi p1 p2)), .second, .val (.double (FP.ddiv (FP.l2d (own_lo p1 p2)) (4611686018427387904 : UInt64))), .second, .unset, .unset, .unset, .unset, .unset, .unset, .unset] [(.double (FP.ddiv (FP.l2d (own_hi p1 p2)) (4611686018427387904 : UInt64)))])) _
      refine XS.dstore X83.here hx rfl (hb hby at_64) rfl (l' := #[.val (.int p1), .val (.int p2), .val (.int p3), .val (.int (1 : Int32)), .val (.long (own_lo p1 p2)), .second, .val (.long (own_hi p1 p2)), .second, .val (.double (FP.ddiv (FP.l2d (own_lo p1 p2)) (4611686018427387904 : UInt64))), .second, .val (.double (FP.ddiv (FP.l2d (own_hi p1 p2)) (4611686018427387904 : UInt64))), .second, .unset, .unset, .unset, .unset, .unset]) rfl ?_
      show Steps p.tables e below (T83.setTop (mkF m 66 #[.val (.int p1), .val (.int p2), .val (.int p3), .val (.int (1 : Int32)), .val (.long (own_lo p1 p2)), .second, .val (.long (own_hi p1 p2)), .second, .val (.double (FP.ddiv (FP.l2d (own_lo p1 p2)) (4611686018427387904 : UInt64))), .second, .val (.double (FP.ddiv (FP.l2d (own_hi p1 p2)) (4611686018427387904 : UInt64))), .second, .unset, .unset, .unset, .unset, .unset] [])) _
      refine st85 _ ?_
      show Steps p.tables e below (T85.setTop (mkF m 69 #[.val (.int p1), .val (.int p2), .val (.int p3), .val (.int (1 : Int32)), .val (.long (own_lo p1 p2)), .second, .val (.long (own_hi p1 p2)), .second, .val (.double (FP.ddiv (FP.l2d (own_lo p1 p2)) (4611686018427387904 : UInt64))), .second, .val (.double (FP.ddiv (FP.l2d (own_hi p1 p2)) (4611686018427387904 : UInt64))), .second, .unset, .unset, .unset, .unset, .unset] [(.ref b85)])) _
      refine XS.dup X85.here hx rfl (hb hby at_69) rfl rfl ?_
      show Steps p.tables e below (T85.setTop (mkF m 70 #[.val (.int p1), .val (.int p2), .val (.int p3), .val (.int (1 : Int32)), .val (.long (own_lo p1 p2)), .second, .val (.long (own_hi p1 p2)), .second, .val (.double (FP.ddiv (FP.l2d (own_lo p1 p2)) (4611686018427387904 : UInt64))), .second, .val (.double (FP.ddiv (FP.l2d (own_hi p1 p2)) (4611686018427387904 : UInt64))), .second, .unset, .unset, .unset, .unset, .unset] [(.ref b85), (.ref b85)])) _
      refine XS.dload X85.here hx rfl (hb hby at_70) rfl ?_
      show Steps p.tables e below (T85.setTop (mkF m 72 #[.val (.int p1), .val (.int p2), .val (.int p3), .val (.int (1 : Int32)), .val (.long (own_lo p1 p2)), .second, .val (.long (own_hi p1 p2)), .second, .val (.double (FP.ddiv (FP.l2d (own_lo p1 p2)) (4611686018427387904 : UInt64))), .second, .val (.double (FP.ddiv (FP.l2d (own_hi p1 p2)) (4611686018427387904 : UInt64))), .second, .unset, .unset, .unset, .unset, .unset] [(.double (FP.ddiv (FP.l2d (own_lo p1 p2)) (4611686018427387904 : UInt64))), (.ref b85), (.ref b85)])) _
      refine XS.dload X85.here hx rfl (hb hby at_72) rfl ?_
      show Steps p.tables e below (T85.setTop (mkF m 74 #[.val (.int p1), .val (.int p2), .val (.int p3), .val (.int (1 : Int32)), .val (.long (own_lo p1 p2)), .second, .val (.long (own_hi p1 p2)), .second, .val (.double (FP.ddiv (FP.l2d (own_lo p1 p2)) (4611686018427387904 : UInt64))), .second, .val (.double (FP.ddiv (FP.l2d (own_hi p1 p2)) (4611686018427387904 : UInt64))), .second, .unset, .unset, .unset, .unset, .unset] [(.double (FP.ddiv (FP.l2d (own_hi p1 p2)) (4611686018427387904 : UInt64))), (.double (FP.ddiv (FP.l2d (own_lo p1 p2)) (4611686018427387904 : UInt64))), (.ref b85), (.ref b85)])) _
      refine st87.trans ?_
      show Steps p.tables e below (T87.setTop (mkF m 77 #[.val (.int p1), .val (.int p2), .val (.int p3), .val (.int (1 : Int32)), .val (.long (own_lo p1 p2)), .second, .val (.long (own_hi p1 p2)), .second, .val (.double (FP.ddiv (FP.l2d (own_lo p1 p2)) (4611686018427387904 : UInt64))), .second, .val (.double (FP.ddiv (FP.l2d (own_hi p1 p2)) (4611686018427387904 : UInt64))), .second, .unset, .unset, .unset, .unset, .unset] [(.ref b85)])) _
      refine XS.astore X87.here hx rfl (hb hby at_77) rfl rfl (l' := #[.val (.int p1), .val (.int p2), .val (.int p3), .val (.int (1 : Int32)), .val (.long (own_lo p1 p2)), .second, .val (.long (own_hi p1 p2)), .second, .val (.double (FP.ddiv (FP.l2d (own_lo p1 p2)) (4611686018427387904 : UInt64))), .second, .val (.double (FP.ddiv (FP.l2d (own_hi p1 p2)) (4611686018427387904 : UInt64))), .second, .val (.ref b85), .unset, .unset, .unset, .unset]) rfl ?_
      show Steps p.tables e below (T87.setTop (mkF m 79 #[.val (.int p1), .val (.int p2), .val (.int p3), .val (.int (1 : Int32)), .val (.long (own_lo p1 p2)), .second, .val (.long (own_hi p1 p2)), .second, .val (.double (FP.ddiv (FP.l2d (own_lo p1 p2)) (4611686018427387904 : UInt64))), .second, .val (.double (FP.ddiv (FP.l2d (own_hi p1 p2)) (4611686018427387904 : UInt64))), .second, .val (.ref b85), .unset, .unset, .unset, .unset] [])) _
      refine XS.aload X87.here hx rfl (hb hby at_79) rfl rfl ?_
      show Steps p.tables e below (T87.setTop (mkF m 81 #[.val (.int p1), .val (.int p2), .val (.int p3), .val (.int (1 : Int32)), .val (.long (own_lo p1 p2)), .second, .val (.long (own_hi p1 p2)), .second, .val (.double (FP.ddiv (FP.l2d (own_lo p1 p2)) (4611686018427387904 : UInt64))), .second, .val (.double (FP.ddiv (FP.l2d (own_hi p1 p2)) (4611686018427387904 : UInt64))), .second, .val (.ref b85), .unset, .unset, .unset, .unset] [(.ref b85)])) _
      refine st93.trans ?_
      show Steps p.tables e below (T93.setTop (mkF m 84 #[.val (.int p1), .val (.int p2), .val (.int p3), .val (.int (1 : Int32)), .val (.long (own_lo p1 p2)), .second, .val (.long (own_hi p1 p2)), .second, .val (.double (FP.ddiv (FP.l2d (own_lo p1 p2)) (4611686018427387904 : UInt64))), .second, .val (.double (FP.ddiv (FP.l2d (own_hi p1 p2)) (4611686018427387904 : UInt64))), .second, .val (.ref b85), .unset, .unset, .unset, .unset] [(.int (own_f6 (FP.ddiv (FP.l2d (own_lo p1 p2)) (4611686018427387904 : UInt64))))])) _
      refine XS.istore X93.here hx rfl (hb hby at_84) rfl (l' := #[.val (.int p1), .val (.int p2), .val (.int p3), .val (.int (1 : Int32)), .val (.long (own_lo p1 p2)), .second, .val (.long (own_hi p1 p2)), .second, .val (.double (FP.ddiv (FP.l2d (own_lo p1 p2)) (4611686018427387904 : UInt64))), .second, .val (.double (FP.ddiv (FP.l2d (own_hi p1 p2)) (4611686018427387904 : UInt64))), .second, .val (.ref b85), .val (.int (own_f6 (FP.ddiv (FP.l2d (own_lo p1 p2)) (4611686018427387904 : UInt64)))), .unset, .unset, .unset]) rfl ?_
      show Steps p.tables e below (T93.setTop (mkF m 86 #[.val (.int p1), .val (.int p2), .val (.int p3), .val (.int (1 : Int32)), .val (.long (own_lo p1 p2)), .second, .val (.long (own_hi p1 p2)), .second, .val (.double (FP.ddiv (FP.l2d (own_lo p1 p2)) (4611686018427387904 : UInt64))), .second, .val (.double (FP.ddiv (FP.l2d (own_hi p1 p2)) (4611686018427387904 : UInt64))), .second, .val (.ref b85), .val (.int (own_f6 (FP.ddiv (FP.l2d (own_lo p1 p2)) (4611686018427387904 : UInt64)))), .unset, .unset, .unset] [])) _
      refine XS.iloadN X93.here hx rfl (hb hby at_86) rfl ?_
      show Steps p.tables e below (T93.setTop (mkF m 87 #[.val (.int p1), .val (.int p2), .val (.int p3), .val (.int (1 : Int32)), .val (.long (own_lo p1 p2)), .second, .val (.long (own_hi p1 p2)), .second, .val (.double (FP.ddiv (FP.l2d (own_lo p1 p2)) (4611686018427387904 : UInt64))), .second, .val (.double (FP.ddiv (FP.l2d (own_hi p1 p2)) (4611686018427387904 : UInt64))), .second, .val (.ref b85), .val (.int (own_f6 (FP.ddiv (FP.l2d (own_lo p1 p2)) (4611686018427387904 : UInt64)))), .unset, .unset, .unset] [(.int (1 : Int32))])) _
      refine XS.ifNo X93.here hx rfl (hb hby at_87) rfl ((if0 _ _).trans (feq (by decide : ¬ ((1 : Int32) = (0 : Int32)))).1) ?_
      show Steps p.tables e below (T93.setTop (mkF m 90 #[.val (.int p1), .val (.int p2), .val (.int p3), .val (.int (1 : Int32)), .val (.long (own_lo p1 p2)), .second, .val (.long (own_hi p1 p2)), .second, .val (.double (FP.ddiv (FP.l2d (own_lo p1 p2)) (4611686018427387904 : UInt64))), .second, .val (.double (FP.ddiv (FP.l2d (own_hi p1 p2)) (4611686018427387904 : UInt64))), .second, .val (.ref b85), .val (.int (own_f6 (FP.ddiv (FP.l2d (own_lo p1 p2)) (4611686018427387904 : UInt64)))), .unset, .unset, .unset] [])) _
      refine XS.lload X93.here hx rfl (hb hby at_90) rfl ?_
      show Steps p.tables e below (T93.setTop (mkF m 92 #[.val (.int p1), .val (.int p2), .val (.int p3), .val (.int (1 : Int32)), .val (.long (own_lo p1 p2)), .second, .val (.long (own_hi p1 p2)), .second, .val (.double (FP.ddiv (FP.l2d (own_lo p1 p2)) (4611686018427387904 : UInt64))), .second, .val (.double (FP.ddiv (FP.l2d (own_hi p1 p2)) (4611686018427387904 : UInt64))), .second, .val (.ref b85), .val (.int (own_f6 (FP.ddiv (FP.l2d (own_lo p1 p2)) (4611686018427387904 : UInt64)))), .unset, .unset, .unset] [(.long (own_lo p1 p2))])) _
      refine X93.ldc2Long hx hown (mvT hZ (hw _ (List.mem_of_getElem? (i := 36) rfl))) (g := (mkF m 92 #[.val (.int p1), .val (.int p2), .val (.int p3), .val (.int (1 : Int32)), .val (.long (own_lo p1 p2)), .second, .val (.long (own_hi p1 p2)), .second, .val (.double (FP.ddiv (FP.l2d (own_lo p1 p2)) (4611686018427387904 : UInt64))), .second, .val (.double (FP.ddiv (FP.l2d (own_hi p1 p2)) (4611686018427387904 : UInt64))), .second, .val (.ref b85), .val (.int (own_f6 (FP.ddiv (FP.l2d (own_lo p1 p2)) (4611686018427387904 : UInt64)))), .unset, .unset, .unset] [(.long (own_lo p1 p2))])) rfl (hb hby at_92) _ ?_
      show Steps p.tables e below (T93.setTop (mkF m 95 #[.val (.int p1), .val (.int p2), .val (.int p3), .val (.int (1 : Int32)), .val (.long (own_lo p1 p2)), .second, .val (.long (own_hi p1 p2)), .second, .val (.double (FP.ddiv (FP.l2d (own_lo p1 p2)) (4611686018427387904 : UInt64))), .second, .val (.double (FP.ddiv (FP.l2d (own_hi p1 p2)) (4611686018427387904 : UInt64))), .second, .val (.ref b85), .val (.int (own_f6 (FP.ddiv (FP.l2d (own_lo p1 p2)) (4611686018427387904 : UInt64)))), .unset, .unset, .unset] [(.long (2 : Int64)), (.long (own_lo p1 p2))])) _
      refine XS.lcmp X93.here hx rfl (hb hby at_95) rfl ?_
      exact kt
    by_cases hc7 : (lcmpW (own_lo p1 p2) (2 : Int64)) < (0 : Int32)
    ·
      have k96 : ∀ t, Steps p.tables e below (T93.setTop (mkF m 125 #[.val (.int p1), .val (.int p2), .val (.int p3), .val (.int (1 : Int32)), .val (.long (own_lo p1 p2)), .second, .val (.long (own_hi p1 p2)), .second, .val (.double (FP.ddiv (FP.l2d (own_lo p1 p2)) (4611686018427387904 : UInt64))), .second, .val (.double (FP.ddiv (FP.l2d (own_hi p1 p2)) (4611686018427387904 : UInt64))), .second, .val (.ref b85), .val (.int (own_f6 (FP.ddiv (FP.l2d (own_lo p1 p2)) (4611686018427387904 : UInt64)))), .val (.int (1 : Int32)), .unset, .unset] [(.int (1 : Int32)), (.int (own_f6 (FP.ddiv (FP.l2d (own_lo p1 p2)) (4611686018427387904 : UInt64))))])) t → Steps p.tables e below (s₁.setTop (entryFrame m #[(.int p1), (.int p2), (.int p3)] maxLocals)) t := by
        intro t kt
        refine k95 t ?_
        show Steps p.tables e below (T93.setTop (mkF m 96 #[.val (.int p1), .val (.int p2), .val (.int p3), .val (.int (1 : Int32)), .val (.long (own_lo p1 p2)), .second, .val (.long (own_hi p1 p2)), .second, .val (.double (FP.ddiv (FP.l2d (own_lo p1 p2)) (4611686018427387904 : UInt64))), .second, .val (.double (FP.ddiv (FP.l2d (own_hi p1 p2)) (4611686018427387904 : UInt64))), .second, .val (.ref b85), .val (.int (own_f6 (FP.ddiv (FP.l2d (own_lo p1 p2)) (4611686018427387904 : UInt64)))), .unset, .unset, .unset] [(.int (lcmpW (own_lo p1 p2) (2 : Int64)))])) _
        refine XS.ifNo X93.here hx rfl (hb hby at_96) rfl ((if0 _ _).trans (tlt hc7).2.1) ?_
        show Steps p.tables e below (T93.setTop (mkF m 99 #[.val (.int p1), .val (.int p2), .val (.int p3), .val (.int (1 : Int32)), .val (.long (own_lo p1 p2)), .second, .val (.long (own_hi p1 p2)), .second, .val (.double (FP.ddiv (FP.l2d (own_lo p1 p2)) (4611686018427387904 : UInt64))), .second, .val (.double (FP.ddiv (FP.l2d (own_hi p1 p2)) (4611686018427387904 : UInt64))), .second, .val (.ref b85), .val (.int (own_f6 (FP.ddiv (FP.l2d (own_lo p1 p2)) (4611686018427387904 : UInt64)))), .unset, .unset, .unset] [])) _
        refine XS.iconst X93.here hx rfl (hb hby at_99) ?_
        show Steps p.tables e below (T93.setTop (mkF m 100 #[.val (.int p1), .val (.int p2), .val (.int p3), .val (.int (1 : Int32)), .val (.long (own_lo p1 p2)), .second, .val (.long (own_hi p1 p2)), .second, .val (.double (FP.ddiv (FP.l2d (own_lo p1 p2)) (4611686018427387904 : UInt64))), .second, .val (.double (FP.ddiv (FP.l2d (own_hi p1 p2)) (4611686018427387904 : UInt64))), .second, .val (.ref b85), .val (.int (own_f6 (FP.ddiv (FP.l2d (own_lo p1 p2)) (4611686018427387904 : UInt64)))), .unset, .unset, .unset] [(.int (1 : Int32))])) _
        refine XS.goto X93.here hx rfl (pc0 := 100) (pc' := 119) rfl (hb hby at_100) (by decide) (by decide) ?_
        show Steps p.tables e below (T93.setTop (mkF m 119 #[.val (.int p1), .val (.int p2), .val (.int p3), .val (.int (1 : Int32)), .val (.long (own_lo p1 p2)), .second, .val (.long (own_hi p1 p2)), .second, .val (.double (FP.ddiv (FP.l2d (own_lo p1 p2)) (4611686018427387904 : UInt64))), .second, .val (.double (FP.ddiv (FP.l2d (own_hi p1 p2)) (4611686018427387904 : UInt64))), .second, .val (.ref b85), .val (.int (own_f6 (FP.ddiv (FP.l2d (own_lo p1 p2)) (4611686018427387904 : UInt64)))), .unset, .unset, .unset] [(.int (1 : Int32))])) _
        refine XS.istore X93.here hx rfl (hb hby at_119) rfl (l' := #[.val (.int p1), .val (.int p2), .val (.int p3), .val (.int (1 : Int32)), .val (.long (own_lo p1 p2)), .second, .val (.long (own_hi p1 p2)), .second, .val (.double (FP.ddiv (FP.l2d (own_lo p1 p2)) (4611686018427387904 : UInt64))), .second, .val (.double (FP.ddiv (FP.l2d (own_hi p1 p2)) (4611686018427387904 : UInt64))), .second, .val (.ref b85), .val (.int (own_f6 (FP.ddiv (FP.l2d (own_lo p1 p2)) (4611686018427387904 : UInt64)))), .val (.int (1 : Int32)), .unset, .unset]) rfl ?_
        show Steps p.tables e below (T93.setTop (mkF m 121 #[.val (.int p1), .val (.int p2), .val (.int p3), .val (.int (1 : Int32)), .val (.long (own_lo p1 p2)), .second, .val (.long (own_hi p1 p2)), .second, .val (.double (FP.ddiv (FP.l2d (own_lo p1 p2)) (4611686018427387904 : UInt64))), .second, .val (.double (FP.ddiv (FP.l2d (own_hi p1 p2)) (4611686018427387904 : UInt64))), .second, .val (.ref b85), .val (.int (own_f6 (FP.ddiv (FP.l2d (own_lo p1 p2)) (4611686018427387904 : UInt64)))), .val (.int (1 : Int32)), .unset, .unset] [])) _
        refine XS.iload X93.here hx rfl (hb hby at_121) rfl ?_
        show Steps p.tables e below (T93.setTop (mkF m 123 #[.val (.int p1), .val (.int p2), .val (.int p3), .val (.int (1 : Int32)), .val (.long (own_lo p1 p2)), .second, .val (.long (own_hi p1 p2)), .second, .val (.double (FP.ddiv (FP.l2d (own_lo p1 p2)) (4611686018427387904 : UInt64))), .second, .val (.double (FP.ddiv (FP.l2d (own_hi p1 p2)) (4611686018427387904 : UInt64))), .second, .val (.ref b85), .val (.int (own_f6 (FP.ddiv (FP.l2d (own_lo p1 p2)) (4611686018427387904 : UInt64)))), .val (.int (1 : Int32)), .unset, .unset] [(.int (own_f6 (FP.ddiv (FP.l2d (own_lo p1 p2)) (4611686018427387904 : UInt64))))])) _
        refine XS.iload X93.here hx rfl (hb hby at_123) rfl ?_
        exact kt
      by_cases hc8 : (own_f6 (FP.ddiv (FP.l2d (own_lo p1 p2)) (4611686018427387904 : UInt64))) = (1 : Int32)
      ·
        obtain ⟨fs, hr, hrun, hended, hW, hsame⟩ := X93.leave (hlocks := hlk) (v := some (.int (1 : Int32))) (fun h => by rw [Bd.returns] at h; cases h)
        refine ⟨_, _, k96 _ ?_, hrun, hended, _, _, rfl, ?_, ⟨_, rfl⟩, hW, hsame.mono (by decide) (by decide)⟩
        · show Steps p.tables e below (T93.setTop (mkF m 125 #[.val (.int p1), .val (.int p2), .val (.int p3), .val (.int (1 : Int32)), .val (.long (own_lo p1 p2)), .second, .val (.long (own_hi p1 p2)), .second, .val (.double (FP.ddiv (FP.l2d (own_lo p1 p2)) (4611686018427387904 : UInt64))), .second, .val (.double (FP.ddiv (FP.l2d (own_hi p1 p2)) (4611686018427387904 : UInt64))), .second, .val (.ref b85), .val (.int (own_f6 (FP.ddiv (FP.l2d (own_lo p1 p2)) (4611686018427387904 : UInt64)))), .val (.int (1 : Int32)), .unset, .unset] [(.int (1 : Int32)), (.int (own_f6 (FP.ddiv (FP.l2d (own_lo p1 p2)) (4611686018427387904 : UInt64))))])) _
          refine XS.icmpNo X93.here hx rfl (hb hby at_125) rfl (teq hc8).2 ?_
          show Steps p.tables e below (T93.setTop (mkF m 128 #[.val (.int p1), .val (.int p2), .val (.int p3), .val (.int (1 : Int32)), .val (.long (own_lo p1 p2)), .second, .val (.long (own_hi p1 p2)), .second, .val (.double (FP.ddiv (FP.l2d (own_lo p1 p2)) (4611686018427387904 : UInt64))), .second, .val (.double (FP.ddiv (FP.l2d (own_hi p1 p2)) (4611686018427387904 : UInt64))), .second, .val (.ref b85), .val (.int (own_f6 (FP.ddiv (FP.l2d (own_lo p1 p2)) (4611686018427387904 : UInt64)))), .val (.int (1 : Int32)), .unset, .unset] [])) _
          refine XS.iconst X93.here hx rfl (hb hby at_128) ?_
          show Steps p.tables e below (T93.setTop (mkF m 129 #[.val (.int p1), .val (.int p2), .val (.int p3), .val (.int (1 : Int32)), .val (.long (own_lo p1 p2)), .second, .val (.long (own_hi p1 p2)), .second, .val (.double (FP.ddiv (FP.l2d (own_lo p1 p2)) (4611686018427387904 : UInt64))), .second, .val (.double (FP.ddiv (FP.l2d (own_hi p1 p2)) (4611686018427387904 : UInt64))), .second, .val (.ref b85), .val (.int (own_f6 (FP.ddiv (FP.l2d (own_lo p1 p2)) (4611686018427387904 : UInt64)))), .val (.int (1 : Int32)), .unset, .unset] [(.int (1 : Int32))])) _
          refine XS.goto X93.here hx rfl (pc0 := 129) (pc' := 133) rfl (hb hby at_129) (by decide) (by decide) ?_
          show Steps p.tables e below (T93.setTop (mkF m 133 #[.val (.int p1), .val (.int p2), .val (.int p3), .val (.int (1 : Int32)), .val (.long (own_lo p1 p2)), .second, .val (.long (own_hi p1 p2)), .second, .val (.double (FP.ddiv (FP.l2d (own_lo p1 p2)) (4611686018427387904 : UInt64))), .second, .val (.double (FP.ddiv (FP.l2d (own_hi p1 p2)) (4611686018427387904 : UInt64))), .second, .val (.ref b85), .val (.int (own_f6 (FP.ddiv (FP.l2d (own_lo p1 p2)) (4611686018427387904 : UInt64)))), .val (.int (1 : Int32)), .unset, .unset] [(.int (1 : Int32))])) _
          refine XS.istore X93.here hx rfl (hb hby at_133) rfl (l' := #[.val (.int p1), .val (.int p2), .val (.int p3), .val (.int (1 : Int32)), .val (.long (own_lo p1 p2)), .second, .val (.long (own_hi p1 p2)), .second, .val (.double (FP.ddiv (FP.l2d (own_lo p1 p2)) (4611686018427387904 : UInt64))), .second, .val (.double (FP.ddiv (FP.l2d (own_hi p1 p2)) (4611686018427387904 : UInt64))), .second, .val (.ref b85), .val (.int (own_f6 (FP.ddiv (FP.l2d (own_lo p1 p2)) (4611686018427387904 : UInt64)))), .val (.int (1 : Int32)), .val (.int (1 : Int32)), .unset]) rfl ?_
          show Steps p.tables e below (T93.setTop (mkF m 135 #[.val (.int p1), .val (.int p2), .val (.int p3), .val (.int (1 : Int32)), .val (.long (own_lo p1 p2)), .second, .val (.long (own_hi p1 p2)), .second, .val (.double (FP.ddiv (FP.l2d (own_lo p1 p2)) (4611686018427387904 : UInt64))), .second, .val (.double (FP.ddiv (FP.l2d (own_hi p1 p2)) (4611686018427387904 : UInt64))), .second, .val (.ref b85), .val (.int (own_f6 (FP.ddiv (FP.l2d (own_lo p1 p2)) (4611686018427387904 : UInt64)))), .val (.int (1 : Int32)), .val (.int (1 : Int32)), .unset] [])) _
          refine XS.iloadN X93.here hx rfl (hb hby at_135) rfl ?_
          show Steps p.tables e below (T93.setTop (mkF m 136 #[.val (.int p1), .val (.int p2), .val (.int p3), .val (.int (1 : Int32)), .val (.long (own_lo p1 p2)), .second, .val (.long (own_hi p1 p2)), .second, .val (.double (FP.ddiv (FP.l2d (own_lo p1 p2)) (4611686018427387904 : UInt64))), .second, .val (.double (FP.ddiv (FP.l2d (own_hi p1 p2)) (4611686018427387904 : UInt64))), .second, .val (.ref b85), .val (.int (own_f6 (FP.ddiv (FP.l2d (own_lo p1 p2)) (4611686018427387904 : UInt64)))), .val (.int (1 : Int32)), .val (.int (1 : Int32)), .unset] [(.int (1 : Int32))])) _
          refine XS.ifYes X93.here hx rfl (pc0 := 136) (pc' := 178) rfl (hb hby at_136) rfl ((if0 _ _).trans (feq (by decide : ¬ ((1 : Int32) = (0 : Int32)))).2) (by decide) (by decide) ?_
          show Steps p.tables e below (T93.setTop (mkF m 178 #[.val (.int p1), .val (.int p2), .val (.int p3), .val (.int (1 : Int32)), .val (.long (own_lo p1 p2)), .second, .val (.long (own_hi p1 p2)), .second, .val (.double (FP.ddiv (FP.l2d (own_lo p1 p2)) (4611686018427387904 : UInt64))), .second, .val (.double (FP.ddiv (FP.l2d (own_hi p1 p2)) (4611686018427387904 : UInt64))), .second, .val (.ref b85), .val (.int (own_f6 (FP.ddiv (FP.l2d (own_lo p1 p2)) (4611686018427387904 : UInt64)))), .val (.int (1 : Int32)), .val (.int (1 : Int32)), .unset] [])) _
          refine XS.iload X93.here hx rfl (hb hby at_178) rfl ?_
          show Steps p.tables e below (T93.setTop (mkF m 180 #[.val (.int p1), .val (.int p2), .val (.int p3), .val (.int (1 : Int32)), .val (.long (own_lo p1 p2)), .second, .val (.long (own_hi p1 p2)), .second, .val (.double (FP.ddiv (FP.l2d (own_lo p1 p2)) (4611686018427387904 : UInt64))), .second, .val (.double (FP.ddiv (FP.l2d (own_hi p1 p2)) (4611686018427387904 : UInt64))), .second, .val (.ref b85), .val (.int (own_f6 (FP.ddiv (FP.l2d (own_lo p1 p2)) (4611686018427387904 : UInt64)))), .val (.int (1 : Int32)), .val (.int (1 : Int32)), .unset] [(.int (1 : Int32))])) _
          exact retN X93 hx (t := .boolean) Bd.returns (by simp) (hb hby at_180) hr
        · show own_Q0 Z p1 p2 p3 h0 n0 _ T93.heap _
          rw [e93]
          exact ⟨(by rw [own_f0, if_neg hc1, if_pos hc7, if_pos hc8]), N94⟩
      ·
        obtain ⟨fs, hr, hrun, hended, hW, hsame⟩ := X93.leave (hlocks := hlk) (v := some (.int (0 : Int32))) (fun h => by rw [Bd.returns] at h; cases h)
        refine ⟨_, _, k96 _ ?_, hrun, hended, _, _, rfl, ?_, ⟨_, rfl⟩, hW, hsame.mono (by decide) (by decide)⟩
        · show Steps p.tables e below (T93.setTop (mkF m 125 #[.val (.int p1), .val (.int p2), .val (.int p3), .val (.int (1 : Int32)), .val (.long (own_lo p1 p2)), .second, .val (.long (own_hi p1 p2)), .second, .val (.double (FP.ddiv (FP.l2d (own_lo p1 p2)) (4611686018427387904 : UInt64))), .second, .val (.double (FP.ddiv (FP.l2d (own_hi p1 p2)) (4611686018427387904 : UInt64))), .second, .val (.ref b85), .val (.int (own_f6 (FP.ddiv (FP.l2d (own_lo p1 p2)) (4611686018427387904 : UInt64)))), .val (.int (1 : Int32)), .unset, .unset] [(.int (1 : Int32)), (.int (own_f6 (FP.ddiv (FP.l2d (own_lo p1 p2)) (4611686018427387904 : UInt64))))])) _
          refine XS.icmpYes X93.here hx rfl (pc0 := 125) (pc' := 132) rfl (hb hby at_125) rfl (feq hc8).2 (by decide) (by decide) ?_
          show Steps p.tables e below (T93.setTop (mkF m 132 #[.val (.int p1), .val (.int p2), .val (.int p3), .val (.int (1 : Int32)), .val (.long (own_lo p1 p2)), .second, .val (.long (own_hi p1 p2)), .second, .val (.double (FP.ddiv (FP.l2d (own_lo p1 p2)) (4611686018427387904 : UInt64))), .second, .val (.double (FP.ddiv (FP.l2d (own_hi p1 p2)) (4611686018427387904 : UInt64))), .second, .val (.ref b85), .val (.int (own_f6 (FP.ddiv (FP.l2d (own_lo p1 p2)) (4611686018427387904 : UInt64)))), .val (.int (1 : Int32)), .unset, .unset] [])) _
          refine XS.iconst X93.here hx rfl (hb hby at_132) ?_
          show Steps p.tables e below (T93.setTop (mkF m 133 #[.val (.int p1), .val (.int p2), .val (.int p3), .val (.int (1 : Int32)), .val (.long (own_lo p1 p2)), .second, .val (.long (own_hi p1 p2)), .second, .val (.double (FP.ddiv (FP.l2d (own_lo p1 p2)) (4611686018427387904 : UInt64))), .second, .val (.double (FP.ddiv (FP.l2d (own_hi p1 p2)) (4611686018427387904 : UInt64))), .second, .val (.ref b85), .val (.int (own_f6 (FP.ddiv (FP.l2d (own_lo p1 p2)) (4611686018427387904 : UInt64)))), .val (.int (1 : Int32)), .unset, .unset] [(.int (0 : Int32))])) _
          refine XS.istore X93.here hx rfl (hb hby at_133) rfl (l' := #[.val (.int p1), .val (.int p2), .val (.int p3), .val (.int (1 : Int32)), .val (.long (own_lo p1 p2)), .second, .val (.long (own_hi p1 p2)), .second, .val (.double (FP.ddiv (FP.l2d (own_lo p1 p2)) (4611686018427387904 : UInt64))), .second, .val (.double (FP.ddiv (FP.l2d (own_hi p1 p2)) (4611686018427387904 : UInt64))), .second, .val (.ref b85), .val (.int (own_f6 (FP.ddiv (FP.l2d (own_lo p1 p2)) (4611686018427387904 : UInt64)))), .val (.int (1 : Int32)), .val (.int (0 : Int32)), .unset]) rfl ?_
          show Steps p.tables e below (T93.setTop (mkF m 135 #[.val (.int p1), .val (.int p2), .val (.int p3), .val (.int (1 : Int32)), .val (.long (own_lo p1 p2)), .second, .val (.long (own_hi p1 p2)), .second, .val (.double (FP.ddiv (FP.l2d (own_lo p1 p2)) (4611686018427387904 : UInt64))), .second, .val (.double (FP.ddiv (FP.l2d (own_hi p1 p2)) (4611686018427387904 : UInt64))), .second, .val (.ref b85), .val (.int (own_f6 (FP.ddiv (FP.l2d (own_lo p1 p2)) (4611686018427387904 : UInt64)))), .val (.int (1 : Int32)), .val (.int (0 : Int32)), .unset] [])) _
          refine XS.iloadN X93.here hx rfl (hb hby at_135) rfl ?_
          show Steps p.tables e below (T93.setTop (mkF m 136 #[.val (.int p1), .val (.int p2), .val (.int p3), .val (.int (1 : Int32)), .val (.long (own_lo p1 p2)), .second, .val (.long (own_hi p1 p2)), .second, .val (.double (FP.ddiv (FP.l2d (own_lo p1 p2)) (4611686018427387904 : UInt64))), .second, .val (.double (FP.ddiv (FP.l2d (own_hi p1 p2)) (4611686018427387904 : UInt64))), .second, .val (.ref b85), .val (.int (own_f6 (FP.ddiv (FP.l2d (own_lo p1 p2)) (4611686018427387904 : UInt64)))), .val (.int (1 : Int32)), .val (.int (0 : Int32)), .unset] [(.int (1 : Int32))])) _
          refine XS.ifYes X93.here hx rfl (pc0 := 136) (pc' := 178) rfl (hb hby at_136) rfl ((if0 _ _).trans (feq (by decide : ¬ ((1 : Int32) = (0 : Int32)))).2) (by decide) (by decide) ?_
          show Steps p.tables e below (T93.setTop (mkF m 178 #[.val (.int p1), .val (.int p2), .val (.int p3), .val (.int (1 : Int32)), .val (.long (own_lo p1 p2)), .second, .val (.long (own_hi p1 p2)), .second, .val (.double (FP.ddiv (FP.l2d (own_lo p1 p2)) (4611686018427387904 : UInt64))), .second, .val (.double (FP.ddiv (FP.l2d (own_hi p1 p2)) (4611686018427387904 : UInt64))), .second, .val (.ref b85), .val (.int (own_f6 (FP.ddiv (FP.l2d (own_lo p1 p2)) (4611686018427387904 : UInt64)))), .val (.int (1 : Int32)), .val (.int (0 : Int32)), .unset] [])) _
          refine XS.iload X93.here hx rfl (hb hby at_178) rfl ?_
          show Steps p.tables e below (T93.setTop (mkF m 180 #[.val (.int p1), .val (.int p2), .val (.int p3), .val (.int (1 : Int32)), .val (.long (own_lo p1 p2)), .second, .val (.long (own_hi p1 p2)), .second, .val (.double (FP.ddiv (FP.l2d (own_lo p1 p2)) (4611686018427387904 : UInt64))), .second, .val (.double (FP.ddiv (FP.l2d (own_hi p1 p2)) (4611686018427387904 : UInt64))), .second, .val (.ref b85), .val (.int (own_f6 (FP.ddiv (FP.l2d (own_lo p1 p2)) (4611686018427387904 : UInt64)))), .val (.int (1 : Int32)), .val (.int (0 : Int32)), .unset] [(.int (0 : Int32))])) _
          exact retN X93 hx (t := .boolean) Bd.returns (by simp) (hb hby at_180) hr
        · show own_Q0 Z p1 p2 p3 h0 n0 _ T93.heap _
          rw [e93]
          exact ⟨(by rw [own_f0, if_neg hc1, if_pos hc7, if_neg hc8]), N94⟩
    ·
      have k97 : ∀ t, Steps p.tables e below (T93.setTop (mkF m 125 #[.val (.int p1), .val (.int p2), .val (.int p3), .val (.int (1 : Int32)), .val (.long (own_lo p1 p2)), .second, .val (.long (own_hi p1 p2)), .second, .val (.double (FP.ddiv (FP.l2d (own_lo p1 p2)) (4611686018427387904 : UInt64))), .second, .val (.double (FP.ddiv (FP.l2d (own_hi p1 p2)) (4611686018427387904 : UInt64))), .second, .val (.ref b85), .val (.int (own_f6 (FP.ddiv (FP.l2d (own_lo p1 p2)) (4611686018427387904 : UInt64)))), .val (.int (0 : Int32)), .unset, .unset] [(.int (0 : Int32)), (.int (own_f6 (FP.ddiv (FP.l2d (own_lo p1 p2)) (4611686018427387904 : UInt64))))])) t → Steps p.tables e below (s₁.setTop (entryFrame m #[(.int p1), (.int p2), (.int p3)] maxLocals)) t := by
        intro t kt
        refine k95 t ?_
        show Steps p.tables e below (T93.setTop (mkF m 96 #[.val (.int p1), .val (.int p2), .val (.int p3), .val (.int (1 : Int32)), .val (.long (own_lo p1 p2)), .second, .val (.long (own_hi p1 p2)), .second, .val (.double (FP.ddiv (FP.l2d (own_lo p1 p2)) (4611686018427387904 : UInt64))), .second, .val (.double (FP.ddiv (FP.l2d (own_hi p1 p2)) (4611686018427387904 : UInt64))), .second, .val (.ref b85), .val (.int (own_f6 (FP.ddiv (FP.l2d (own_lo p1 p2)) (4611686018427387904 : UInt64)))), .unset, .unset, .unset] [(.int (lcmpW (own_lo p1 p2) (2 : Int64)))])) _
        refine XS.ifYes X93.here hx rfl (pc0 := 96) (pc' := 103) rfl (hb hby at_96) rfl ((if0 _ _).trans (flt hc7).2.1) (by decide) (by decide) ?_
        show Steps p.tables e below (T93.setTop (mkF m 103 #[.val (.int p1), .val (.int p2), .val (.int p3), .val (.int (1 : Int32)), .val (.long (own_lo p1 p2)), .second, .val (.long (own_hi p1 p2)), .second, .val (.double (FP.ddiv (FP.l2d (own_lo p1 p2)) (4611686018427387904 : UInt64))), .second, .val (.double (FP.ddiv (FP.l2d (own_hi p1 p2)) (4611686018427387904 : UInt64))), .second, .val (.ref b85), .val (.int (own_f6 (FP.ddiv (FP.l2d (own_lo p1 p2)) (4611686018427387904 : UInt64)))), .unset, .unset, .unset] [])) _
        refine XS.iconst X93.here hx rfl (hb hby at_103) ?_
        show Steps p.tables e below (T93.setTop (mkF m 104 #[.val (.int p1), .val (.int p2), .val (.int p3), .val (.int (1 : Int32)), .val (.long (own_lo p1 p2)), .second, .val (.long (own_hi p1 p2)), .second, .val (.double (FP.ddiv (FP.l2d (own_lo p1 p2)) (4611686018427387904 : UInt64))), .second, .val (.double (FP.ddiv (FP.l2d (own_hi p1 p2)) (4611686018427387904 : UInt64))), .second, .val (.ref b85), .val (.int (own_f6 (FP.ddiv (FP.l2d (own_lo p1 p2)) (4611686018427387904 : UInt64)))), .unset, .unset, .unset] [(.int (0 : Int32))])) _
        refine XS.goto X93.here hx rfl (pc0 := 104) (pc' := 119) rfl (hb hby at_104) (by decide) (by decide) ?_
        show Steps p.tables e below (T93.setTop (mkF m 119 #[.val (.int p1), .val (.int p2), .val (.int p3), .val (.int (1 : Int32)), .val (.long (own_lo p1 p2)), .second, .val (.long (own_hi p1 p2)), .second, .val (.double (FP.ddiv (FP.l2d (own_lo p1 p2)) (4611686018427387904 : UInt64))), .second, .val (.double (FP.ddiv (FP.l2d (own_hi p1 p2)) (4611686018427387904 : UInt64))), .second, .val (.ref b85), .val (.int (own_f6 (FP.ddiv (FP.l2d (own_lo p1 p2)) (4611686018427387904 : UInt64)))), .unset, .unset, .unset] [(.int (0 : Int32))])) _
        refine XS.istore X93.here hx rfl (hb hby at_119) rfl (l' := #[.val (.int p1), .val (.int p2), .val (.int p3), .val (.int (1 : Int32)), .val (.long (own_lo p1 p2)), .second, .val (.long (own_hi p1 p2)), .second, .val (.double (FP.ddiv (FP.l2d (own_lo p1 p2)) (4611686018427387904 : UInt64))), .second, .val (.double (FP.ddiv (FP.l2d (own_hi p1 p2)) (4611686018427387904 : UInt64))), .second, .val (.ref b85), .val (.int (own_f6 (FP.ddiv (FP.l2d (own_lo p1 p2)) (4611686018427387904 : UInt64)))), .val (.int (0 : Int32)), .unset, .unset]) rfl ?_
        show Steps p.tables e below (T93.setTop (mkF m 121 #[.val (.int p1), .val (.int p2), .val (.int p3), .val (.int (1 : Int32)), .val (.long (own_lo p1 p2)), .second, .val (.long (own_hi p1 p2)), .second, .val (.double (FP.ddiv (FP.l2d (own_lo p1 p2)) (4611686018427387904 : UInt64))), .second, .val (.double (FP.ddiv (FP.l2d (own_hi p1 p2)) (4611686018427387904 : UInt64))), .second, .val (.ref b85), .val (.int (own_f6 (FP.ddiv (FP.l2d (own_lo p1 p2)) (4611686018427387904 : UInt64)))), .val (.int (0 : Int32)), .unset, .unset] [])) _
        refine XS.iload X93.here hx rfl (hb hby at_121) rfl ?_
        show Steps p.tables e below (T93.setTop (mkF m 123 #[.val (.int p1), .val (.int p2), .val (.int p3), .val (.int (1 : Int32)), .val (.long (own_lo p1 p2)), .second, .val (.long (own_hi p1 p2)), .second, .val (.double (FP.ddiv (FP.l2d (own_lo p1 p2)) (4611686018427387904 : UInt64))), .second, .val (.double (FP.ddiv (FP.l2d (own_hi p1 p2)) (4611686018427387904 : UInt64))), .second, .val (.ref b85), .val (.int (own_f6 (FP.ddiv (FP.l2d (own_lo p1 p2)) (4611686018427387904 : UInt64)))), .val (.int (0 : Int32)), .unset, .unset] [(.int (own_f6 (FP.ddiv (FP.l2d (own_lo p1 p2)) (4611686018427387904 : UInt64))))])) _
        refine XS.iload X93.here hx rfl (hb hby at_123) rfl ?_
        exact kt
      by_cases hc9 : (own_f6 (FP.ddiv (FP.l2d (own_lo p1 p2)) (4611686018427387904 : UInt64))) = (0 : Int32)
      ·
        obtain ⟨fs, hr, hrun, hended, hW, hsame⟩ := X93.leave (hlocks := hlk) (v := some (.int (1 : Int32))) (fun h => by rw [Bd.returns] at h; cases h)
        refine ⟨_, _, k97 _ ?_, hrun, hended, _, _, rfl, ?_, ⟨_, rfl⟩, hW, hsame.mono (by decide) (by decide)⟩
        · show Steps p.tables e below (T93.setTop (mkF m 125 #[.val (.int p1), .val (.int p2), .val (.int p3), .val (.int (1 : Int32)), .val (.long (own_lo p1 p2)), .second, .val (.long (own_hi p1 p2)), .second, .val (.double (FP.ddiv (FP.l2d (own_lo p1 p2)) (4611686018427387904 : UInt64))), .second, .val (.double (FP.ddiv (FP.l2d (own_hi p1 p2)) (4611686018427387904 : UInt64))), .second, .val (.ref b85), .val (.int (own_f6 (FP.ddiv (FP.l2d (own_lo p1 p2)) (4611686018427387904 : UInt64)))), .val (.int (0 : Int32)), .unset, .unset] [(.int (0 : Int32)), (.int (own_f6 (FP.ddiv (FP.l2d (own_lo p1 p2)) (4611686018427387904 : UInt64))))])) _
          refine XS.icmpNo X93.here hx rfl (hb hby at_125) rfl (teq hc9).2 ?_
          show Steps p.tables e below (T93.setTop (mkF m 128 #[.val (.int p1), .val (.int p2), .val (.int p3), .val (.int (1 : Int32)), .val (.long (own_lo p1 p2)), .second, .val (.long (own_hi p1 p2)), .second, .val (.double (FP.ddiv (FP.l2d (own_lo p1 p2)) (4611686018427387904 : UInt64))), .second, .val (.double (FP.ddiv (FP.l2d (own_hi p1 p2)) (4611686018427387904 : UInt64))), .second, .val (.ref b85), .val (.int (own_f6 (FP.ddiv (FP.l2d (own_lo p1 p2)) (4611686018427387904 : UInt64)))), .val (.int (0 : Int32)), .unset, .unset] [])) _
          refine XS.iconst X93.here hx rfl (hb hby at_128) ?_
          show Steps p.tables e below (T93.setTop (mkF m 129 #[.val (.int p1), .val (.int p2), .val (.int p3), .val (.int (1 : Int32)), .val (.long (own_lo p1 p2)), .second, .val (.long (own_hi p1 p2)), .second, .val (.double (FP.ddiv (FP.l2d (own_lo p1 p2)) (4611686018427387904 : UInt64))), .second, .val (.double (FP.ddiv (FP.l2d (own_hi p1 p2)) (4611686018427387904 : UInt64))), .second, .val (.ref b85), .val (.int (own_f6 (FP.ddiv (FP.l2d (own_lo p1 p2)) (4611686018427387904 : UInt64)))), .val (.int (0 : Int32)), .unset, .unset] [(.int (1 : Int32))])) _
          refine XS.goto X93.here hx rfl (pc0 := 129) (pc' := 133) rfl (hb hby at_129) (by decide) (by decide) ?_
          show Steps p.tables e below (T93.setTop (mkF m 133 #[.val (.int p1), .val (.int p2), .val (.int p3), .val (.int (1 : Int32)), .val (.long (own_lo p1 p2)), .second, .val (.long (own_hi p1 p2)), .second, .val (.double (FP.ddiv (FP.l2d (own_lo p1 p2)) (4611686018427387904 : UInt64))), .second, .val (.double (FP.ddiv (FP.l2d (own_hi p1 p2)) (4611686018427387904 : UInt64))), .second, .val (.ref b85), .val (.int (own_f6 (FP.ddiv (FP.l2d (own_lo p1 p2)) (4611686018427387904 : UInt64)))), .val (.int (0 : Int32)), .unset, .unset] [(.int (1 : Int32))])) _
          refine XS.istore X93.here hx rfl (hb hby at_133) rfl (l' := #[.val (.int p1), .val (.int p2), .val (.int p3), .val (.int (1 : Int32)), .val (.long (own_lo p1 p2)), .second, .val (.long (own_hi p1 p2)), .second, .val (.double (FP.ddiv (FP.l2d (own_lo p1 p2)) (4611686018427387904 : UInt64))), .second, .val (.double (FP.ddiv (FP.l2d (own_hi p1 p2)) (4611686018427387904 : UInt64))), .second, .val (.ref b85), .val (.int (own_f6 (FP.ddiv (FP.l2d (own_lo p1 p2)) (4611686018427387904 : UInt64)))), .val (.int (0 : Int32)), .val (.int (1 : Int32)), .unset]) rfl ?_
          show Steps p.tables e below (T93.setTop (mkF m 135 #[.val (.int p1), .val (.int p2), .val (.int p3), .val (.int (1 : Int32)), .val (.long (own_lo p1 p2)), .second, .val (.long (own_hi p1 p2)), .second, .val (.double (FP.ddiv (FP.l2d (own_lo p1 p2)) (4611686018427387904 : UInt64))), .second, .val (.double (FP.ddiv (FP.l2d (own_hi p1 p2)) (4611686018427387904 : UInt64))), .second, .val (.ref b85), .val (.int (own_f6 (FP.ddiv (FP.l2d (own_lo p1 p2)) (4611686018427387904 : UInt64)))), .val (.int (0 : Int32)), .val (.int (1 : Int32)), .unset] [])) _
          refine XS.iloadN X93.here hx rfl (hb hby at_135) rfl ?_
          show Steps p.tables e below (T93.setTop (mkF m 136 #[.val (.int p1), .val (.int p2), .val (.int p3), .val (.int (1 : Int32)), .val (.long (own_lo p1 p2)), .second, .val (.long (own_hi p1 p2)), .second, .val (.double (FP.ddiv (FP.l2d (own_lo p1 p2)) (4611686018427387904 : UInt64))), .second, .val (.double (FP.ddiv (FP.l2d (own_hi p1 p2)) (4611686018427387904 : UInt64))), .second, .val (.ref b85), .val (.int (own_f6 (FP.ddiv (FP.l2d (own_lo p1 p2)) (4611686018427387904 : UInt64)))), .val (.int (0 : Int32)), .val (.int (1 : Int32)), .unset] [(.int (1 : Int32))])) _
          refine XS.ifYes X93.here hx rfl (pc0 := 136) (pc' := 178) rfl (hb hby at_136) rfl ((if0 _ _).trans (feq (by decide : ¬ ((1 : Int32) = (0 : Int32)))).2) (by decide) (by decide) ?_
          show Steps p.tables e below (T93.setTop (mkF m 178 #[.val (.int p1), .val (.int p2), .val (.int p3), .val (.int (1 : Int32)), .val (.long (own_lo p1 p2)), .second, .val (.long (own_hi p1 p2)), .second, .val (.double (FP.ddiv (FP.l2d (own_lo p1 p2)) (4611686018427387904 : UInt64))), .second, .val (.double (FP.ddiv (FP.l2d (own_hi p1 p2)) (4611686018427387904 : UInt64))), .second, .val (.ref b85), .val (.int (own_f6 (FP.ddiv (FP.l2d (own_lo p1 p2)) (4611686018427387904 : UInt64)))), .val (.int (0 : Int32)), .val (.int (1 : Int32)), .unset] [])) _
          refine XS.iload X93.here hx rfl (hb hby at_178) rfl ?_
          show Steps p.tables e below (T93.setTop (mkF m 180 #[.val (.int p1), .val (.int p2), .val (.int p3), .val (.int (1 : Int32)), .val (.long (own_lo p1 p2)), .second, .val (.long (own_hi p1 p2)), .second, .val (.double (FP.ddiv (FP.l2d (own_lo p1 p2)) (4611686018427387904 : UInt64))), .second, .val (.double (FP.ddiv (FP.l2d (own_hi p1 p2)) (4611686018427387904 : UInt64))), .second, .val (.ref b85), .val (.int (own_f6 (FP.ddiv (FP.l2d (own_lo p1 p2)) (4611686018427387904 : UInt64)))), .val (.int (0 : Int32)), .val (.int (1 : Int32)), .unset] [(.int (1 : Int32))])) _
          exact retN X93 hx (t := .boolean) Bd.returns (by simp) (hb hby at_180) hr
        · show own_Q0 Z p1 p2 p3 h0 n0 _ T93.heap _
          rw [e93]
          exact ⟨(by rw [own_f0, if_neg hc1, if_neg hc7, if_pos hc9]), N94⟩
      ·
        obtain ⟨fs, hr, hrun, hended, hW, hsame⟩ := X93.leave (hlocks := hlk) (v := some (.int (0 : Int32))) (fun h => by rw [Bd.returns] at h; cases h)
        refine ⟨_, _, k97 _ ?_, hrun, hended, _, _, rfl, ?_, ⟨_, rfl⟩, hW, hsame.mono (by decide) (by decide)⟩
        · show Steps p.tables e below (T93.setTop (mkF m 125 #[.val (.int p1), .val (.int p2), .val (.int p3), .val (.int (1 : Int32)), .val (.long (own_lo p1 p2)), .second, .val (.long (own_hi p1 p2)), .second, .val (.double (FP.ddiv (FP.l2d (own_lo p1 p2)) (4611686018427387904 : UInt64))), .second, .val (.double (FP.ddiv (FP.l2d (own_hi p1 p2)) (4611686018427387904 : UInt64))), .second, .val (.ref b85), .val (.int (own_f6 (FP.ddiv (FP.l2d (own_lo p1 p2)) (4611686018427387904 : UInt64)))), .val (.int (0 : Int32)), .unset, .unset] [(.int (0 : Int32)), (.int (own_f6 (FP.ddiv (FP.l2d (own_lo p1 p2)) (4611686018427387904 : UInt64))))])) _
          refine XS.icmpYes X93.here hx rfl (pc0 := 125) (pc' := 132) rfl (hb hby at_125) rfl (feq hc9).2 (by decide) (by decide) ?_
          show Steps p.tables e below (T93.setTop (mkF m 132 #[.val (.int p1), .val (.int p2), .val (.int p3), .val (.int (1 : Int32)), .val (.long (own_lo p1 p2)), .second, .val (.long (own_hi p1 p2)), .second, .val (.double (FP.ddiv (FP.l2d (own_lo p1 p2)) (4611686018427387904 : UInt64))), .second, .val (.double (FP.ddiv (FP.l2d (own_hi p1 p2)) (4611686018427387904 : UInt64))), .second, .val (.ref b85), .val (.int (own_f6 (FP.ddiv (FP.l2d (own_lo p1 p2)) (4611686018427387904 : UInt64)))), .val (.int (0 : Int32)), .unset, .unset] [])) _
          refine XS.iconst X93.here hx rfl (hb hby at_132) ?_
          show Steps p.tables e below (T93.setTop (mkF m 133 #[.val (.int p1), .val (.int p2), .val (.int p3), .val (.int (1 : Int32)), .val (.long (own_lo p1 p2)), .second, .val (.long (own_hi p1 p2)), .second, .val (.double (FP.ddiv (FP.l2d (own_lo p1 p2)) (4611686018427387904 : UInt64))), .second, .val (.double (FP.ddiv (FP.l2d (own_hi p1 p2)) (4611686018427387904 : UInt64))), .second, .val (.ref b85), .val (.int (own_f6 (FP.ddiv (FP.l2d (own_lo p1 p2)) (4611686018427387904 : UInt64)))), .val (.int (0 : Int32)), .unset, .unset] [(.int (0 : Int32))])) _
          refine XS.istore X93.here hx rfl (hb hby at_133) rfl (l' := #[.val (.int p1), .val (.int p2), .val (.int p3), .val (.int (1 : Int32)), .val (.long (own_lo p1 p2)), .second, .val (.long (own_hi p1 p2)), .second, .val (.double (FP.ddiv (FP.l2d (own_lo p1 p2)) (4611686018427387904 : UInt64))), .second, .val (.double (FP.ddiv (FP.l2d (own_hi p1 p2)) (4611686018427387904 : UInt64))), .second, .val (.ref b85), .val (.int (own_f6 (FP.ddiv (FP.l2d (own_lo p1 p2)) (4611686018427387904 : UInt64)))), .val (.int (0 : Int32)), .val (.int (0 : Int32)), .unset]) rfl ?_
          show Steps p.tables e below (T93.setTop (mkF m 135 #[.val (.int p1), .val (.int p2), .val (.int p3), .val (.int (1 : Int32)), .val (.long (own_lo p1 p2)), .second, .val (.long (own_hi p1 p2)), .second, .val (.double (FP.ddiv (FP.l2d (own_lo p1 p2)) (4611686018427387904 : UInt64))), .second, .val (.double (FP.ddiv (FP.l2d (own_hi p1 p2)) (4611686018427387904 : UInt64))), .second, .val (.ref b85), .val (.int (own_f6 (FP.ddiv (FP.l2d (own_lo p1 p2)) (4611686018427387904 : UInt64)))), .val (.int (0 : Int32)), .val (.int (0 : Int32)), .unset] [])) _
          refine XS.iloadN X93.here hx rfl (hb hby at_135) rfl ?_
          show Steps p.tables e below (T93.setTop (mkF m 136 #[.val (.int p1), .val (.int p2), .val (.int p3), .val (.int (1 : Int32)), .val (.long (own_lo p1 p2)), .second, .val (.long (own_hi p1 p2)), .second, .val (.double (FP.ddiv (FP.l2d (own_lo p1 p2)) (4611686018427387904 : UInt64))), .second, .val (.double (FP.ddiv (FP.l2d (own_hi p1 p2)) (4611686018427387904 : UInt64))), .second, .val (.ref b85), .val (.int (own_f6 (FP.ddiv (FP.l2d (own_lo p1 p2)) (4611686018427387904 : UInt64)))), .val (.int (0 : Int32)), .val (.int (0 : Int32)), .unset] [(.int (1 : Int32))])) _
          refine XS.ifYes X93.here hx rfl (pc0 := 136) (pc' := 178) rfl (hb hby at_136) rfl ((if0 _ _).trans (feq (by decide : ¬ ((1 : Int32) = (0 : Int32)))).2) (by decide) (by decide) ?_
          show Steps p.tables e below (T93.setTop (mkF m 178 #[.val (.int p1), .val (.int p2), .val (.int p3), .val (.int (1 : Int32)), .val (.long (own_lo p1 p2)), .second, .val (.long (own_hi p1 p2)), .second, .val (.double (FP.ddiv (FP.l2d (own_lo p1 p2)) (4611686018427387904 : UInt64))), .second, .val (.double (FP.ddiv (FP.l2d (own_hi p1 p2)) (4611686018427387904 : UInt64))), .second, .val (.ref b85), .val (.int (own_f6 (FP.ddiv (FP.l2d (own_lo p1 p2)) (4611686018427387904 : UInt64)))), .val (.int (0 : Int32)), .val (.int (0 : Int32)), .unset] [])) _
          refine XS.iload X93.here hx rfl (hb hby at_178) rfl ?_
          show Steps p.tables e below (T93.setTop (mkF m 180 #[.val (.int p1), .val (.int p2), .val (.int p3), .val (.int (1 : Int32)), .val (.long (own_lo p1 p2)), .second, .val (.long (own_hi p1 p2)), .second, .val (.double (FP.ddiv (FP.l2d (own_lo p1 p2)) (4611686018427387904 : UInt64))), .second, .val (.double (FP.ddiv (FP.l2d (own_hi p1 p2)) (4611686018427387904 : UInt64))), .second, .val (.ref b85), .val (.int (own_f6 (FP.ddiv (FP.l2d (own_lo p1 p2)) (4611686018427387904 : UInt64)))), .val (.int (0 : Int32)), .val (.int (0 : Int32)), .unset] [(.int (0 : Int32))])) _
          exact retN X93 hx (t := .boolean) Bd.returns (by simp) (hb hby at_180) hr
        · show own_Q0 Z p1 p2 p3 h0 n0 _ T93.heap _
          rw [e93]
          exact ⟨(by rw [own_f0, if_neg hc1, if_neg hc7, if_neg hc9]), N94⟩
open Jvm.FP.Core in
theorem own_div (a : Int64) (h1 : -2147483648 ≤ a.toInt) (h2 : a.toInt < 2147483648) (h4 : 4 ≤ a.toInt.natAbs) :
    ∃ k : Nat, k ≤ 50 ∧ Jvm.FP.Core.val64 (FP.ddiv (FP.l2d a) 4611686018427387904) = .fin (decide (a.toInt < 0)) (a.toInt.natAbs * 2 ^ k) (-((k : Int) + 1)) := by
  have hn0 : a.toInt.natAbs ≠ 0 := by omega
  have l1 := Nat.log2_self_le hn0
  have l2 := Nat.lt_log2_self (n := a.toInt.natAbs)
  have l3 : a.toInt.natAbs.log2 < 32 := by rw [Nat.log2_lt hn0]; omega
  have l4 : 2 ≤ a.toInt.natAbs.log2 := by rw [Nat.le_log2 hn0]; omega
  generalize hL : a.toInt.natAbs.log2 = L at *
  refine ⟨52 - L, by omega, ?_⟩
  have p1 : 2 ^ 52 ≤ a.toInt.natAbs * 2 ^ (52 - L) := by
    calc 2 ^ 52 = 2 ^ L * 2 ^ (52 - L) := by rw [← Nat.pow_add]; congr 1; omega
      _ ≤ _ := Nat.mul_le_mul_right _ l1
  have p2 : a.toInt.natAbs * 2 ^ (52 - L) < 2 ^ 53 := by
    calc a.toInt.natAbs * 2 ^ (52 - L) < 2 ^ (L + 1) * 2 ^ (52 - L) := Nat.mul_lt_mul_of_pos_right l2 (Nat.two_pow_pos _)
      _ = 2 ^ 53 := by rw [← Nat.pow_add]; congr 1; omega
  have f1 : ∀ q : Int, -1074 ≤ q → q ≤ 900 → Jvm.FP.Core.fits Jvm.FP.Core.b64 (.fin (decide (a.toInt < 0)) (a.toInt.natAbs * 2 ^ (52 - L)) q) := fun q g1 g2 =>
    ⟨p2, by show b64.qmin ≤ q; have : b64.qmin = -1074 := by decide
            omega, by show q ≤ b64.qmax; have : b64.qmax = 971 := by decide
                      omega, Or.inr p1⟩
  have e1 : val64 (FP.l2d a) = .fin (decide (a.toInt < 0)) (a.toInt.natAbs * 2 ^ (52 - L)) (-((52 - L : Nat) : Int)) := by
    rw [show val64 (FP.l2d a) = roundRatio b64 (decide (a.toInt < 0)) a.toInt.natAbs 1 0 from val64_l2d a]
    refine roundRatio_exact good_b64 (by decide) (f1 _ (by omega) (by omega)) ?_
    rw [show (0 - -((52 - L : Nat) : Int)).toNat = 52 - L by omega, show (-((52 - L : Nat) : Int) - 0).toNat = 0 by omega]
    simp
  have e2 : val64 (4611686018427387904 : UInt64) = .fin false (2 ^ 52) (-51) := by decide +kernel
  have e3 : val64 (FP.ddiv (FP.l2d a) 4611686018427387904) = quotient b64 (val64 (FP.l2d a)) (val64 4611686018427387904) := val64_ddiv _ _
  rw [e3, e1, e2]
  rw [show quotient b64 (.fin (decide (a.toInt < 0)) (a.toInt.natAbs * 2 ^ (52 - L)) (-((52 - L : Nat) : Int))) (.fin false (2 ^ 52) (-51)) = if (2 ^ 52 : Nat) = 0 then (if a.toInt.natAbs * 2 ^ (52 - L) = 0 then .nan else .inf (decide (a.toInt < 0) != false)) else roundRatio b64 (decide (a.toInt < 0) != false) (a.toInt.natAbs * 2 ^ (52 - L)) (2 ^ 52) (-((52 - L : Nat) : Int) - (-51)) from rfl]
  rw [if_neg (by decide), Bool.bne_false]
  refine roundRatio_exact good_b64 (by decide) (f1 _ (by omega) (by omega)) ?_
  rw [show (-((52 - L : Nat) : Int) - -51 - -(((52 - L : Nat) : Int) + 1)).toNat = 52 by omega, show (-(((52 - L : Nat) : Int) + 1) - (-((52 - L : Nat) : Int) - -51)).toNat = 0 by omega]
  simp
theorem own_ordNeg (n P : Nat) (hP : 0 < P) (hn : 4 ≤ n) : compare (-((n * P : Nat) : Int)) ((2 * P : Nat) : Int) = .lt := by
  rw [Int.compare_eq_lt]
  have : 0 < n * P := Nat.mul_pos (by omega) hP
  omega
theorem own_ordPos (n P : Nat) (hP : 0 < P) (hn : 4 ≤ n) : compare ((n * P : Nat) : Int) ((2 * P : Nat) : Int) = .gt := by
  rw [Int.compare_eq_gt]
  have : 4 * P ≤ n * P := Nat.mul_le_mul_right _ hn
  omega
open Jvm.FP.Core in
theorem own_sF (m : Nat) : signed false m = (m : Int) := rfl
open Jvm.FP.Core in
theorem own_sT (m : Nat) : signed true m = -(m : Int) := rfl
open Jvm.FP.Core in
theorem own_big (a : Int64) (h1 : -2147483648 ≤ a.toInt) (h2 : a.toInt < 2147483648) (h4 : 4 ≤ a.toInt.natAbs) : FP.dcmp (FP.ddiv (FP.l2d a) 4611686018427387904) FP.dconst1 = some (if a.toInt < 0 then .lt else .gt) := by
  obtain ⟨k, hk, e⟩ := own_div a h1 h2 h4
  have e1 : FP.dcmp (FP.ddiv (FP.l2d a) 4611686018427387904) FP.dconst1 = order (val64 (FP.ddiv (FP.l2d a) 4611686018427387904)) (val64 FP.dconst1) := rfl
  have e2 : val64 FP.dconst1 = .fin false (2 ^ 52) (-52) := by decide +kernel
  rw [e1, e, e2]
  have e3 : order (.fin (decide (a.toInt < 0)) (a.toInt.natAbs * 2 ^ k) (-((k : Int) + 1))) (.fin false (2 ^ 52) (-52)) = some (compare (signed (decide (a.toInt < 0)) (inUnits (a.toInt.natAbs * 2 ^ k) (-((k : Int) + 1)) (min (-((k : Int) + 1)) (-52)))) (signed false (inUnits (2 ^ 52) (-52) (min (-((k : Int) + 1)) (-52))))) := rfl
  have e4 : min (-((k : Int) + 1)) (-52) = -52 := by omega
  have e5 : inUnits (a.toInt.natAbs * 2 ^ k) (-((k : Int) + 1)) (-52) = a.toInt.natAbs * 2 ^ 51 := by
    show a.toInt.natAbs * 2 ^ k * 2 ^ (-((k : Int) + 1) - (-52)).toNat = _
    rw [show (-((k : Int) + 1) - (-52)).toNat = 51 - k by omega, Nat.mul_assoc, ← Nat.pow_add, show k + (51 - k) = 51 by omega]
  have e6 : inUnits (2 ^ 52) (-52) (-52) = 2 * 2 ^ 51 := by decide +kernel
  rw [e3, e4, e5, e6]
  obtain ⟨P, hP⟩ : ∃ P : Nat, P = 2 ^ 51 := ⟨_, rfl⟩
  have hP0 : 0 < P := hP ▸ Nat.two_pow_pos 51
  rw [← hP, own_sF]
  by_cases hs : a.toInt < 0
  · rw [decide_eq_true hs, own_sT, if_pos hs, own_ordNeg _ P hP0 h4]
  · rw [decide_eq_false hs, own_sF, if_neg hs, own_ordPos _ P hP0 h4]
theorem own_small : ∀ i : Fin 7, FP.dcmp (FP.ddiv (FP.l2d (Int64.ofInt ((i.val : Int) - 3))) 4611686018427387904) FP.dconst1 = some (if (i.val : Int) - 3 < 2 then .lt else if (i.val : Int) - 3 = 2 then .eq else .gt) := by decide +kernel
theorem own_half (a : Int64) (h1 : -2147483648 ≤ a.toInt) (h2 : a.toInt < 2147483648) : FP.dcmp (FP.ddiv (FP.l2d a) 4611686018427387904) FP.dconst1 = some (if a.toInt < 2 then .lt else if a.toInt = 2 then .eq else .gt) := by
  by_cases h4 : 4 ≤ a.toInt.natAbs
  · rw [own_big a h1 h2 h4]
    by_cases hs : a.toInt < 0
    · rw [if_pos hs, if_pos (by omega)]
    · rw [if_neg hs, if_neg (by omega), if_neg (by omega)]
  · have q := own_small ⟨(a.toInt + 3).toNat, by omega⟩
    have e1 : (((a.toInt + 3).toNat : Nat) : Int) - 3 = a.toInt := by omega
    simp only [e1] at q
    rwa [Int64.ofInt_toInt] at q
theorem own_one1 : FP.dconst1 = FP.l2d 1 := by decide +kernel
theorem own_A1 (a : Int64) (ha : Jvm.RoadKit.B53 a) : own_f6 (FP.l2d a) = if a.toInt < 1 then 1 else 0 := by
  unfold own_f6
  rw [own_one1, Jvm.RoadKit.dcmpV_w ha (by unfold Jvm.RoadKit.B53; decide) .g]
  simp only [lw_lt, Int64.lt_iff_toInt_lt, show (1 : Int64).toInt = 1 from rfl]
theorem own_A2 (a : Int64) (h1 : -2147483648 ≤ a.toInt) (h2 : a.toInt < 2147483648) (ha : Jvm.RoadKit.B53 a) : own_f7 (FP.dsub FP.dconst1 (FP.l2d a)) = if 0 < a.toInt then 0 else 1 := by
  have q := Jvm.RoadKit.sub64 (a := 1) (b := a) (by unfold Jvm.RoadKit.B53; decide) ha
  rw [show (1 : Int64).toInt = 1 from rfl] at q
  unfold own_f7
  rw [own_one1, Jvm.RoadKit.dsub_w (by unfold Jvm.RoadKit.B53; decide) ha, Jvm.RoadKit.dcmpV_w ⟨by omega, by omega⟩ (by unfold Jvm.RoadKit.B53; decide) .l]
  simp only [lw_lt, Int64.lt_iff_toInt_lt, show (1 : Int64).toInt = 1 from rfl, q]
  repeat' split
  all_goals first | rfl | omega
theorem own_A3 (a : Int64) (h1 : -2147483648 ≤ a.toInt) (h2 : a.toInt < 2147483648) : own_f6 (FP.ddiv (FP.l2d a) 4611686018427387904) = if a.toInt < 2 then 1 else 0 := by
  unfold own_f6
  rw [own_half a h1 h2]
  by_cases g : a.toInt < 2
  · rw [if_pos g, if_pos g]; rfl
  · rw [if_neg g, if_neg g]
    by_cases g' : a.toInt = 2
    · rw [if_pos g']; rfl
    · rw [if_neg g']; rfl
theorem own_law (p1 p2 p3 : Int32) : own_f0 p1 p2 p3 = 1 := by
  have r := rng32 (own_f1 p1 p2)
  have e : (own_lo p1 p2).toInt = (own_f1 p1 p2).toInt := c_i2l _
  have h1 : -2147483648 ≤ (own_lo p1 p2).toInt := by omega
  have h2 : (own_lo p1 p2).toInt < 2147483648 := by omega
  have ha : Jvm.RoadKit.B53 (own_lo p1 p2) := ⟨by omega, by omega⟩
  unfold own_f0
  generalize own_lo p1 p2 = a at *
  simp only [own_A1 a ha, own_A2 a h1 h2 ha, own_A3 a h1 h2, lw_lt, lw_gt, Int64.lt_iff_toInt_lt, show (0 : Int64).toInt = 0 from rfl, show (2 : Int64).toInt = 2 from rfl]
  repeat' split
  all_goals first | rfl | contradiction | omega
set_option maxRecDepth 65536 in
set_option maxHeartbeats 40000000 in
theorem comes_1 {Post : Tables → Env → Array Value → State → Outcome → State → Prop} (hpost : ∀ tb e args s v u, (limb_1_1.after args s (.returned v) u = true ∧ limb_1_2.after args s (.returned v) u = true ∧ True) → FrameEnd s (.returned v) u (Jvm.fieldLocs frame_1_writes args s ++ Jvm.arrayLocs frame_1_arrays args s ++ Jvm.staticLocs frame_1_statics s) 16 128 → Post tb e args s (.returned v) u) :
    ArmFor flags0 classFile x code maxLocals ret World_1 tables_1 room_1 Calls_1 rest_1 Pre_1 Post := by
  intro l hfl _ _ p e ha hc hk s m args below hf hA hF happ hP
  obtain ⟨hcalls, hrest, hpre⟩ := hP
  obtain ⟨-, -, -, hnamed, -, -, -, hat⟩ := (Spec.applies_iff hf).mp happ
  obtain ⟨hg, hn⟩ := and_e (Cond.before_iff.mp (show (Jvm.Cond.and given_1 narrow_1).before args s = true from hpre))
  obtain ⟨gg1, gg2⟩ := and_e hg
  obtain ⟨gg3, gg4⟩ := and_e gg2
  obtain ⟨gg5, gg6⟩ := and_e gg4
  obtain ⟨w0, w1, w2, rfl⟩ : ∃ w0 w1 w2 : Value, args = #[w0, w1, w2] := by
    have hs : args.size = 3 := by simpa [Cond.value, given_1] using gg1
    obtain ⟨L⟩ := args
    match L, hs with
    | [w0, w1, w2], _ => exact ⟨w0, w1, w2, rfl⟩
  have hw := fun d (hd : d ∈ tables_1) => atoms_spec (ws := Jvm.Cond.code x code maxLocals ret :: tables_1) hat d (List.mem_cons_of_mem _ hd)
  have hfit : Fit s := fun {y c} hc i hi => by
    obtain ⟨ha, rfl⟩ := Array.getElem?_eq_some_iff.mp hc
    have q := List.all_eq_true.mp ((Array.all_eq_true_iff_forall_mem.mp hF) _ (Array.getElem_mem ha)) i (List.mem_range.mpr hi)
    simpa [Array.getElem?_eq_getElem hi] using q
  obtain ⟨i0, ei0⟩ := is_v gg3
  obtain rfl : w0 = (.int i0) := Option.some.inj ei0
  obtain ⟨i1, ei1⟩ := is_v gg5
  obtain rfl : w1 = (.int i1) := Option.some.inj ei1
  obtain ⟨i2, ei2⟩ := is_v gg6
  obtain rfl : w2 = (.int i2) := Option.some.inj ei2
  obtain ⟨n, o, h1, h2, h3, _, L, rfl, ⟨rfl, N⟩, hq⟩ := own_rm0 l s _ hw tables_1 i0 i1 i2 s.heap s.heap.size (Nat.le_refl _) p e ha hc hk s m _ below hf ((Spec.applies_iff_loose hf).mp happ).1 ⟨rfl, State.Warmed39.refl s, rfl⟩ trivial
  refine ⟨n, _, h1, h2, h3, hpost _ _ _ _ _ _ ⟨Cond.after_iff.mpr rfl, Cond.after_iff.mpr (eq_i res_at (Term.int_eval (1)) (congrArg Value.int (own_law i0 i1 i2))), trivial⟩ ⟨hq.1, hq.2.1, (hq.2.2.sift fun y hy => Or.inr (N y hy)).mono (by decide) (by decide)⟩⟩
theorem main_1_1 : Claimed_1_1 := comes_1 fun _ _ _ _ _ _ h hF => ⟨h.1, hF⟩
theorem main_1_2 : Claimed_1_2 := comes_1 fun _ _ _ _ _ _ h hF => ⟨h.2.1, hF⟩
end Jvm.Pilot.@@N@@
namespace Jvm.Pilot.@@N@@
open Jvm Jvm.ClassFile Sem Op Lib Jvm.Free Jvm.Stand Jvm.Pilot.@@N@@.Jvm.D
/-! MADE BY PROGRAM (witnessworld.py) out of the Statement's table words and the real class files: 11 classes; the members and pool entries that the words name. The judged class is class 1, her method 1. -/
namespace start1
open Jvm.ClassFile
def u (s : String) : CpInfo := .utf8 (stringToUtf16 s)
/-- a pool by its gaps: so many unusable entries, then the entry; so many at the end -/
def gap : Nat → List CpInfo → List CpInfo
  | 0, r => r
  | n + 1, r => .unusable :: gap n r
def poolList (es : List (Nat × CpInfo)) (last : Nat) : List CpInfo := es.foldr (fun e r => gap e.1 (e.2 :: r)) (gap last [])
def pool (es : List (Nat × CpInfo)) (last : Nat) : Array CpInfo := ⟨poolList es last⟩
def fileOf (pool : Array CpInfo) (this : Nat) (attrs : Array Attribute := #[]) (ms : Array MethodInfo := #[]) (fl : Nat := 33) (sup : Nat := 0) (ifs : Array Nat := #[]) (fds : Array FieldInfo := #[]) : ClassFile where
  minorVersion := 0
  majorVersion := 65
  constantPool := pool
  accessFlags := fl
  thisClass := this
  superClass := sup
  interfaces := ifs
  fields := fds
  methods := ms
  attributes := attrs
def plain (name : String) (sup : Option ClassId) : Class where
  name := name
  kind := .ordinary
  loader := none
  accessFlags := 33
  super := sup
  interfaces := #[]
  cf := none
  fields := #[]
  methods := #[]
  instanceTypes := #[]
  staticTypes := #[]
  resolved := #[]
  callSites := []
  init := .initialized
  statics := none
  mirror := none

def pool0 : Array CpInfo := pool [(5, u "<init>"), (0, u "()V"), (1, .class_ 10), (1, u "java/lang/Object")] 113

def k0c0 : Code := { maxStack := 0, maxLocals := 1, code := object_method_1_code, exceptionTable := #[], attributes := #[] }
def k0m0 : Method := { name := "<init>", desc := "()V", sig := { parameters := [], returnType := none }, accessFlags := 1, code := some k0c0 }
/-- java/lang/Object -/
def k0 : Class := { plain "java/lang/Object" none with
  accessFlags := 33
  interfaces := #[]
  cf := some (fileOf pool0 8 #[] #[{ accessFlags := 1, nameIndex := 5, descriptorIndex := 6, attributes := #[] }] 33 0 #[] #[])
  fields := #[]
  methods := #[k0m0]
  instanceTypes := #[]
  staticTypes := #[]
  resolved := Array.replicate 124 none
  statics := none }

def pool1 : Array CpInfo := pool [(2, .class_ 4), (1, u "java/lang/Object"), (0, u "<init>"), (0, u "()V"), (0, .methodref 8 9), (0, .class_ 10), (0, .nameAndType 11 12), (0, u "java/lang/Math"), (0, u "min"), (0, u "(II)I"), (0, .methodref 8 14), (0, .nameAndType 15 12), (0, u "max"), (0, .double 4611686018427387904), (1, .class_ 19), (0, u "com/example/edgbaston/edgbaston/model/Interval"), (0, .methodref 18 21), (0, .nameAndType 5 22), (0, u "(DD)V"), (0, .methodref 18 24), (0, .nameAndType 25 26), (0, u "canBeFalse"), (0, u "()Z"), (0, .long 2), (1, .methodref 18 30), (0, .nameAndType 31 26), (0, u "canBeTrue"), (0, .class_ 33), (0, u "com/example/edgbaston/edgbaston/model/IntervalCanBeFalsePinLaw"), (2, u "law"), (0, u "(III)Z")] 3

def k1m0 : Method := { name := "<init>", desc := "()V", sig := { parameters := [], returnType := none }, accessFlags := 1, code := none }
def k1c1 : Code := { maxStack := 8, maxLocals := 17, code := code, exceptionTable := #[], attributes := #[] }
def k1m1 : Method := { name := "law", desc := "(III)Z", sig := { parameters := [.int, .int, .int], returnType := some .boolean }, accessFlags := 9, code := some k1c1 }
/-- com/example/edgbaston/edgbaston/model/IntervalCanBeFalsePinLaw -/
def k1 : Class := { plain "com/example/edgbaston/edgbaston/model/IntervalCanBeFalsePinLaw" (some 0) with
  accessFlags := 49
  interfaces := #[]
  cf := some (fileOf pool1 32 #[] #[{ accessFlags := 1, nameIndex := 5, descriptorIndex := 6, attributes := #[] }, { accessFlags := 9, nameIndex := 36, descriptorIndex := 37, attributes := #[] }] 49 2 #[] #[])
  fields := #[]
  methods := #[k1m0, k1m1]
  instanceTypes := #[]
  staticTypes := #[]
  resolved := Array.replicate 41 none
  statics := none }

def pool2 : Array CpInfo := pool [(1, .class_ 2), (0, u "java/lang/Math"), (1, .class_ 6), (1, u "java/lang/Object"), (0, u "<init>"), (0, u "()V"), (89, .class_ 100), (1, u "java/lang/Math$RandomNumberGeneratorHolder"), (71, u "negativeZeroFloatBits"), (0, u "J"), (2, u "negativeZeroDoubleBits"), (21, u "max"), (2, u "min"), (43, u "$assertionsDisabled"), (0, u "Z"), (88, u "(II)I"), (2, u "twoToTheDoubleScaleDown"), (0, u "D"), (4, u "twoToTheDoubleScaleUp"), (9, u "E"), (3, u "PI"), (2, u "TAU"), (2, u "DEGREES_TO_RADIANS"), (0, u "RADIANS_TO_DEGREES")] 94

def k2m0 : Method := { name := "<init>", desc := "()V", sig := { parameters := [], returnType := none }, accessFlags := 2, code := none }
def k2c1 : Code := { maxStack := 2, maxLocals := 2, code := jdk_29_method_65_code, exceptionTable := #[], attributes := #[] }
def k2m1 : Method := { name := "max", desc := "(II)I", sig := { parameters := [.int, .int], returnType := some .int }, accessFlags := 9, code := some k2c1 }
def k2c2 : Code := { maxStack := 2, maxLocals := 2, code := jdk_29_method_69_code, exceptionTable := #[], attributes := #[] }
def k2m2 : Method := { name := "min", desc := "(II)I", sig := { parameters := [.int, .int], returnType := some .int }, accessFlags := 9, code := some k2c2 }
/-- java/lang/Math -/
def k2 : Class := { plain "java/lang/Math" (some 0) with
  accessFlags := 49
  interfaces := #[]
  cf := some (fileOf pool2 1 #[.nestMembers #[98]] #[{ accessFlags := 2, nameIndex := 7, descriptorIndex := 8, attributes := #[] }, { accessFlags := 9, nameIndex := 198, descriptorIndex := 335, attributes := #[] }, { accessFlags := 9, nameIndex := 201, descriptorIndex := 335, attributes := #[] }] 49 4 #[] #[{ accessFlags := 25, nameIndex := 354, descriptorIndex := 339, attributes := #[] }, { accessFlags := 25, nameIndex := 358, descriptorIndex := 339, attributes := #[] }, { accessFlags := 25, nameIndex := 361, descriptorIndex := 339, attributes := #[] }, { accessFlags := 26, nameIndex := 364, descriptorIndex := 339, attributes := #[] }, { accessFlags := 26, nameIndex := 365, descriptorIndex := 339, attributes := #[] }, { accessFlags := 26, nameIndex := 172, descriptorIndex := 173, attributes := #[] }, { accessFlags := 26, nameIndex := 176, descriptorIndex := 173, attributes := #[] }, { accessFlags := 8, nameIndex := 344, descriptorIndex := 339, attributes := #[] }, { accessFlags := 8, nameIndex := 338, descriptorIndex := 339, attributes := #[] }, { accessFlags := 4120, nameIndex := 245, descriptorIndex := 246, attributes := #[] }])
  fields := #[{ name := "E", type := .double, accessFlags := 25, slot := 0, constantValue := 0 }, { name := "PI", type := .double, accessFlags := 25, slot := 1, constantValue := 0 }, { name := "TAU", type := .double, accessFlags := 25, slot := 2, constantValue := 0 }, { name := "DEGREES_TO_RADIANS", type := .double, accessFlags := 26, slot := 3, constantValue := 0 }, { name := "RADIANS_TO_DEGREES", type := .double, accessFlags := 26, slot := 4, constantValue := 0 }, { name := "negativeZeroFloatBits", type := .long, accessFlags := 26, slot := 5, constantValue := 0 }, { name := "negativeZeroDoubleBits", type := .long, accessFlags := 26, slot := 6, constantValue := 0 }, { name := "twoToTheDoubleScaleUp", type := .double, accessFlags := 8, slot := 7, constantValue := 0 }, { name := "twoToTheDoubleScaleDown", type := .double, accessFlags := 8, slot := 8, constantValue := 0 }, { name := "$assertionsDisabled", type := .boolean, accessFlags := 4120, slot := 9, constantValue := 0 }]
  methods := #[k2m0, k2m1, k2m2]
  instanceTypes := #[]
  staticTypes := #[.double, .double, .double, .double, .double, .long, .long, .double, .double, .boolean]
  resolved := Array.replicate 460 none
  statics := none }

def pool3 : Array CpInfo := pool [(1, .methodref 2 3), (0, .class_ 4), (0, .nameAndType 5 6), (0, u "java/lang/Object"), (0, u "<init>"), (0, u "()V"), (0, .class_ 8), (0, u "java/lang/Record")] 13

def k3c0 : Code := { maxStack := 1, maxLocals := 1, code := jdk_30_method_1_code, exceptionTable := #[], attributes := #[] }
def k3m0 : Method := { name := "<init>", desc := "()V", sig := { parameters := [], returnType := none }, accessFlags := 4, code := some k3c0 }
/-- java/lang/Record -/
def k3 : Class := { plain "java/lang/Record" (some 0) with
  accessFlags := 1057
  interfaces := #[]
  cf := some (fileOf pool3 7 #[] #[{ accessFlags := 4, nameIndex := 5, descriptorIndex := 6, attributes := #[] }] 1057 2 #[] #[])
  fields := #[]
  methods := #[k3m0]
  instanceTypes := #[]
  staticTypes := #[]
  resolved := Array.replicate 22 none
  statics := none }

def pool4 : Array CpInfo := pool [(1, .methodref 2 3), (0, .class_ 4), (0, .nameAndType 5 6), (0, u "java/lang/Record"), (0, u "<init>"), (0, u "()V"), (0, .fieldref 8 9), (0, .class_ 10), (0, .nameAndType 11 12), (0, u "com/example/edgbaston/edgbaston/model/Interval"), (0, u "low"), (0, u "D"), (0, .fieldref 8 14), (0, .nameAndType 15 12), (0, u "high"), (8, u "(DD)V"), (2, u "WHOLE"), (0, u "Lcom/example/edgbaston/edgbaston/model/Interval;"), (22, u "canBeTrue"), (0, u "()Z"), (0, u "canBeFalse")] 26

def k4c0 : Code := { maxStack := 3, maxLocals := 5, code := prog_23_method_1_code, exceptionTable := #[], attributes := #[] }
def k4m0 : Method := { name := "<init>", desc := "(DD)V", sig := { parameters := [.double, .double], returnType := none }, accessFlags := 1, code := some k4c0 }
def k4c1 : Code := { maxStack := 4, maxLocals := 1, code := prog_23_method_3_code, exceptionTable := #[], attributes := #[] }
def k4m1 : Method := { name := "canBeTrue", desc := "()Z", sig := { parameters := [], returnType := some .boolean }, accessFlags := 1, code := some k4c1 }
def k4c2 : Code := { maxStack := 4, maxLocals := 1, code := prog_23_method_4_code, exceptionTable := #[], attributes := #[] }
def k4m2 : Method := { name := "canBeFalse", desc := "()Z", sig := { parameters := [], returnType := some .boolean }, accessFlags := 1, code := some k4c2 }
/-- com/example/edgbaston/edgbaston/model/Interval -/
def k4 : Class := { plain "com/example/edgbaston/edgbaston/model/Interval" (some 3) with
  accessFlags := 49
  interfaces := #[]
  cf := some (fileOf pool4 8 #[] #[{ accessFlags := 1, nameIndex := 5, descriptorIndex := 24, attributes := #[] }, { accessFlags := 1, nameIndex := 51, descriptorIndex := 52, attributes := #[] }, { accessFlags := 1, nameIndex := 53, descriptorIndex := 52, attributes := #[] }] 49 2 #[] #[{ accessFlags := 18, nameIndex := 11, descriptorIndex := 12, attributes := #[] }, { accessFlags := 18, nameIndex := 15, descriptorIndex := 12, attributes := #[] }, { accessFlags := 25, nameIndex := 27, descriptorIndex := 28, attributes := #[] }])
  fields := #[{ name := "low", type := .double, accessFlags := 18, slot := 0, constantValue := 0 }, { name := "high", type := .double, accessFlags := 18, slot := 1, constantValue := 0 }, { name := "WHOLE", type := (.object "com/example/edgbaston/edgbaston/model/Interval"), accessFlags := 25, slot := 0, constantValue := 0 }]
  methods := #[k4m0, k4m1, k4m2]
  instanceTypes := #[.double, .double]
  staticTypes := #[(.object "com/example/edgbaston/edgbaston/model/Interval")]
  resolved := Array.replicate 80 none
  statics := none }

def pool5 : Array CpInfo := pool [(1, u "java/lang/Cloneable"), (0, .class_ 1), (0, u "java/lang/Object"), (0, .class_ 3)] 3

/-- java/lang/Cloneable -/
def k5 : Class := { plain "java/lang/Cloneable" (some 0) with
  accessFlags := 1537
  interfaces := #[]
  cf := some (fileOf pool5 2 #[] #[] 1537 4 #[] #[])
  fields := #[]
  methods := #[]
  instanceTypes := #[]
  staticTypes := #[]
  resolved := Array.replicate 8 none
  statics := none }

def pool6 : Array CpInfo := pool [(1, u "java/io/Serializable"), (0, .class_ 1), (0, u "java/lang/Object"), (0, .class_ 3)] 3

/-- java/io/Serializable -/
def k6 : Class := { plain "java/io/Serializable" (some 0) with
  accessFlags := 1537
  interfaces := #[]
  cf := some (fileOf pool6 2 #[] #[] 1537 4 #[] #[])
  fields := #[]
  methods := #[]
  instanceTypes := #[]
  staticTypes := #[]
  resolved := Array.replicate 8 none
  statics := none }

/-- the primitive byte -/
def k7 : Class := { plain "byte" none with kind := .primitive 'B', accessFlags := 0x411 }
/-- [B -/
def k8 : Class := { plain "[B" (some 0) with kind := .array 7 .byte, interfaces := #[5, 6], accessFlags := 1041 }

/-- the primitive int -/
def k9 : Class := { plain "int" none with kind := .primitive 'I', accessFlags := 0x411 }
/-- [I -/
def k10 : Class := { plain "[I" (some 0) with kind := .array 9 .int, interfaces := #[5, 6], accessFlags := 1041 }

def heap : Heap := #[]
def classes : Array Class := #[k0, k1, k2, k3, k4, k5, k6, k7, k8, k9, k10]
def interned : List (Array UInt16 × Addr) := []
def slotsUsed : Nat := 0
def theMethod : MethodId := ⟨1, 1⟩
def args0 : Array Value := #[.int 1, .int 2, .int 0]
def aboutOver (below : List Frame) : State where
  vm := { classes := classes, interned := interned.toArray }
  heap := heap
  slotsUsed := slotsUsed
  threads := #[{ frames := .invoking theMethod args0 :: below }]
def below0 : List Frame := [.native { method := ⟨0, 0⟩, args := #[] }]
def about1 : State := aboutOver below0
def p0 : Program := .bare "" "" ""
def e0 : Env := launch0.env 0 0 0
theorem w_frames : about1.frames = Frame.invoking theMethod args0 :: below0 := rfl
set_option maxRecDepth 65536 in
theorem w_args : argsFit about1.vm theMethod args0 = true := by decide +kernel
set_option maxRecDepth 65536 in
theorem w_heap : heapFits about1 = true := by decide +kernel
set_option maxRecDepth 65536 in
theorem w_runnable : about1.curStatus? = some .runnable := by decide +kernel
set_option maxRecDepth 65536 in
theorem w_alone : about1.alone = true := by decide +kernel
set_option maxRecDepth 65536 in
theorem w_named : about1.methodNamed? x = some theMethod := by decide +kernel
set_option maxRecDepth 65536 in
theorem w_hears : about1.hears theMethod below0 = true := by decide +kernel
set_option maxRecDepth 65536 in
theorem w_ripe : about1.ripe theMethod args0 below0 = true := by decide +kernel
theorem w_running : about1.status = .running := rfl
set_option maxRecDepth 65536 in
theorem w_room : about1.hasRoom e0.platform room_1 = true :=
  launch0.hasRoom_least _ room_1 (by decide +kernel) (by decide +kernel) (by decide +kernel) (by decide +kernel) (by decide +kernel) (by decide +kernel)
theorem allAtoms_all (ts : List Jvm.Cond) (a : Array Jvm.Value) (st : Jvm.State) : (allAtoms ts).before a st = ts.all (fun c => c.before a st) := by
  induction ts with
  | nil => rfl
  | cons c t ih =>
    show (Jvm.Cond.and c (allAtoms t)).before a st = _
    rw [Jvm.Cond.before_and, ih, List.all_cons]
def words1 : List Jvm.Cond := Jvm.Cond.code x code maxLocals ret :: tables_1
/-- a 'code' word, met by the world's own term for the bytes: nothing is compared byte by byte -/
theorem code_word {y : MethodName} {bytes : ByteArray} {mx : Nat} {rt : Option FieldType} {a : Array Value} {s : State} {m : MethodId} {meth : Method} {c : Code} (h1 : s.methodNamed? y = some m) (h2 : s.vm.method? m = some meth) (h3 : meth.code = some c) (h4 : c.code = bytes)
    (h5 : (c.maxLocals == mx && c.exceptionTable.isEmpty && decide (c.maxStack ≤ mostOperands) && decide (meth.sig.returnType = rt) && !meth.locks && decide (parseMethodDescriptor y.desc = some meth.sig)) = true) : (Jvm.Cond.code y bytes mx rt).before a s = true := by
  simp only [Bool.and_eq_true, beq_iff_eq, Bool.not_eq_true', decide_eq_true_eq] at h5
  obtain ⟨⟨⟨⟨⟨g1, g2⟩, g3⟩, g4⟩, g5⟩, g6⟩ := h5
  simp [Cond.before, Cond.holds, Cond.value, h1, h2, h3, h4, g1, g2, g3, g4, g5, g6]
def isCode : Jvm.Cond → Bool
  | .code _ _ _ _ => true
  | _ => false
theorem all_split {L : List Jvm.Cond} {P : Jvm.Cond → Bool} (h1 : L.all (fun c => isCode c || P c) = true) (h2 : ∀ c ∈ L.filter isCode, P c = true) : L.all P = true := by
  refine List.all_eq_true.mpr fun c hc => ?_
  have h := List.all_eq_true.mp h1 c hc
  rcases Bool.eq_false_or_eq_true (isCode c) with hi | hi
  · exact h2 c (List.mem_filter.mpr ⟨hc, hi⟩)
  · simpa [hi] using h
set_option maxRecDepth 65536 in
theorem w_c0 : (Jvm.Cond.code x code maxLocals ret).before args0 about1 = true := code_word (m := ⟨1, 1⟩) (meth := k1m1) (c := k1c1) (by decide +kernel) rfl rfl rfl (by decide +kernel)
set_option maxRecDepth 65536 in
theorem w_c1 : (Jvm.Cond.code ({ cls := "java/lang/Math", name := "min", desc := "(II)I" } : Jvm.MethodName) jdk_29_method_69_code (2 : Nat) (Option.some Jvm.ClassFile.FieldType.int)).before args0 about1 = true := code_word (m := ⟨2, 2⟩) (meth := k2m2) (c := k2c2) (by decide +kernel) rfl rfl rfl (by decide +kernel)
set_option maxRecDepth 65536 in
theorem w_c2 : (Jvm.Cond.code ({ cls := "java/lang/Math", name := "max", desc := "(II)I" } : Jvm.MethodName) jdk_29_method_65_code (2 : Nat) (Option.some Jvm.ClassFile.FieldType.int)).before args0 about1 = true := code_word (m := ⟨2, 1⟩) (meth := k2m1) (c := k2c1) (by decide +kernel) rfl rfl rfl (by decide +kernel)
set_option maxRecDepth 65536 in
theorem w_c3 : (Jvm.Cond.code ({ cls := "com/example/edgbaston/edgbaston/model/Interval", name := "<init>", desc := "(DD)V" } : Jvm.MethodName) prog_23_method_1_code (5 : Nat) (Option.none : Option Jvm.ClassFile.FieldType)).before args0 about1 = true := code_word (m := ⟨4, 0⟩) (meth := k4m0) (c := k4c0) (by decide +kernel) rfl rfl rfl (by decide +kernel)
set_option maxRecDepth 65536 in
theorem w_c4 : (Jvm.Cond.code ({ cls := "java/lang/Record", name := "<init>", desc := "()V" } : Jvm.MethodName) jdk_30_method_1_code (1 : Nat) (Option.none : Option Jvm.ClassFile.FieldType)).before args0 about1 = true := code_word (m := ⟨3, 0⟩) (meth := k3m0) (c := k3c0) (by decide +kernel) rfl rfl rfl (by decide +kernel)
set_option maxRecDepth 65536 in
theorem w_c5 : (Jvm.Cond.code ({ cls := "java/lang/Object", name := "<init>", desc := "()V" } : Jvm.MethodName) object_method_1_code (1 : Nat) (Option.none : Option Jvm.ClassFile.FieldType)).before args0 about1 = true := code_word (m := ⟨0, 0⟩) (meth := k0m0) (c := k0c0) (by decide +kernel) rfl rfl rfl (by decide +kernel)
set_option maxRecDepth 65536 in
theorem w_c6 : (Jvm.Cond.code ({ cls := "com/example/edgbaston/edgbaston/model/Interval", name := "canBeFalse", desc := "()Z" } : Jvm.MethodName) prog_23_method_4_code (1 : Nat) (Option.some Jvm.ClassFile.FieldType.boolean)).before args0 about1 = true := code_word (m := ⟨4, 2⟩) (meth := k4m2) (c := k4c2) (by decide +kernel) rfl rfl rfl (by decide +kernel)
set_option maxRecDepth 65536 in
theorem w_c7 : (Jvm.Cond.code ({ cls := "com/example/edgbaston/edgbaston/model/Interval", name := "canBeTrue", desc := "()Z" } : Jvm.MethodName) prog_23_method_3_code (1 : Nat) (Option.some Jvm.ClassFile.FieldType.boolean)).before args0 about1 = true := code_word (m := ⟨4, 1⟩) (meth := k4m1) (c := k4c1) (by decide +kernel) rfl rfl rfl (by decide +kernel)
def codes1 : List Jvm.Cond := [Jvm.Cond.code x code maxLocals ret, Jvm.Cond.code ({ cls := "java/lang/Math", name := "min", desc := "(II)I" } : Jvm.MethodName) jdk_29_method_69_code (2 : Nat) (Option.some Jvm.ClassFile.FieldType.int), Jvm.Cond.code ({ cls := "java/lang/Math", name := "max", desc := "(II)I" } : Jvm.MethodName) jdk_29_method_65_code (2 : Nat) (Option.some Jvm.ClassFile.FieldType.int), Jvm.Cond.code ({ cls := "com/example/edgbaston/edgbaston/model/Interval", name := "<init>", desc := "(DD)V" } : Jvm.MethodName) prog_23_method_1_code (5 : Nat) (Option.none : Option Jvm.ClassFile.FieldType), Jvm.Cond.code ({ cls := "java/lang/Record", name := "<init>", desc := "()V" } : Jvm.MethodName) jdk_30_method_1_code (1 : Nat) (Option.none : Option Jvm.ClassFile.FieldType), Jvm.Cond.code ({ cls := "java/lang/Object", name := "<init>", desc := "()V" } : Jvm.MethodName) object_method_1_code (1 : Nat) (Option.none : Option Jvm.ClassFile.FieldType), Jvm.Cond.code ({ cls := "com/example/edgbaston/edgbaston/model/Interval", name := "canBeFalse", desc := "()Z" } : Jvm.MethodName) prog_23_method_4_code (1 : Nat) (Option.some Jvm.ClassFile.FieldType.boolean), Jvm.Cond.code ({ cls := "com/example/edgbaston/edgbaston/model/Interval", name := "canBeTrue", desc := "()Z" } : Jvm.MethodName) prog_23_method_3_code (1 : Nat) (Option.some Jvm.ClassFile.FieldType.boolean)]
set_option maxRecDepth 65536 in
theorem codes_eq : words1.filter isCode = codes1 := rfl
theorem w_codes : ∀ c ∈ words1.filter isCode, c.before args0 about1 = true := by
  rw [codes_eq]
  intro c hc
  simp only [codes1, List.mem_cons, List.not_mem_nil, or_false] at hc
  rcases hc with rfl | rfl | rfl | rfl | rfl | rfl | rfl | rfl
  · exact w_c0
  · exact w_c1
  · exact w_c2
  · exact w_c3
  · exact w_c4
  · exact w_c5
  · exact w_c6
  · exact w_c7
set_option maxRecDepth 65536 in
theorem w_t1 : (words1.take 24).all (fun c => isCode c || c.before args0 about1) = true := by decide +kernel
set_option maxRecDepth 65536 in
theorem w_t2 : (words1.drop 24).all (fun c => isCode c || c.before args0 about1) = true := by decide +kernel
theorem w_tables : (allAtoms (Jvm.Cond.code x code maxLocals ret :: tables_1)).before args0 about1 = true := by
  rw [allAtoms_all]
  show words1.all (fun c => c.before args0 about1) = true
  refine all_split ?_ w_codes
  rw [← List.take_append_drop 24 words1, List.all_append, w_t1, w_t2]
  rfl
set_option maxRecDepth 65536 in
theorem w_case : (Jvm.Cond.and given_1 narrow_1).before args0 about1 = true := by decide +kernel
theorem w_applies : (headSpec (Jvm.Cond.code x code maxLocals ret :: tables_1) room_1).applies x e0.platform about1 = true :=
  (Spec.applies_iff w_frames).mpr ⟨w_running, w_runnable, w_alone, w_named, w_hears, w_ripe, w_room, w_tables⟩
theorem atStart : AtStart classFile x code maxLocals ret World_1 tables_1 room_1 Calls_1 rest_1 Pre_1 launch0 p0 e0 about1 theMethod args0 below0 :=
  ⟨lists_1, trivial, launch0.admits_env _ _ _, launch0.least_env, fairChoices_fair.cas, fairChoices_fair.clock, w_frames, w_args, w_heap, w_applies, trivial, trivial, w_case⟩
end start1
theorem witness_1 : WitnessClaimed_1 := ⟨start1.p0, start1.e0, start1.about1, start1.theMethod, start1.args0, start1.below0, start1.atStart⟩
end Jvm.Pilot.@@N@@
