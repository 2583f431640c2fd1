import JvmDerived
import JvmDerived.Pilot.@@N@@Statement
import JvmDerived.Pilot.@@N@@Code
set_option linter.unusedVariables false
set_option linter.unusedSimpArgs false
namespace Jvm.RoadKit
open Sem ClassFile Op Lib Jvm.Stand Jvm.Free Jvm.LawKit
section New
variable {p : Program} {l : Launch} {e : Env} {R : Room} {s : State} {m : MethodId} {args : Array Value} {below : List Frame} {meth : Method} {c : Code} {T : State} {locs : List Loc} {cells slots : Nat}
theorem retI (X : Stand p l e R s m args below meth c T locs cells slots) (hx : p.tables.exec = Jvm.exec) {pc : Nat} {Ls : Array Slot} {z : Int32} {rest : List Value} (hret : meth.sig.returnType = some .int) (hd : decode c.code pc = .ok (.ireturn, 1)) {fs : List Frame}
    (hl : ∀ (f : JFrame) (acts : List Action), f.method = m → f.locked = none → f.entered = [] → (doReturn e (T.setTop f) acts (some (.int z))).1 = T.setFrames fs) : Steps p.tables e below (T.setTop (mkF m pc Ls (.int z :: rest))) (T.setFrames fs) := by
  have hm' : T.vm.method? m = some meth := X.method'
  have hn : narrow .int (.int z) = .int z := rfl
  show Steps p.tables e below (T.setTop { method := m, pc := pc, locals := Ls, stack := _ :: rest, locked := none }) _
  jvm_step X.here [X.here.top, hx, hd, hm', hret, hn]
  first | (intro acts; rw [hl _ acts rfl rfl rfl]) | rw [hl _ _ rfl rfl rfl]
  exact Steps.refl _
end New
end Jvm.RoadKit
namespace Jvm.Pilot.@@N@@
open Jvm Jvm.ClassFile Sem Op Lib Jvm.Free Jvm.Stand Jvm.LawKit Jvm.RoadKit Bundle Jvm.Pilot.@@N@@.Jvm.D
theorem own_pn0 : plainName "com/example/castd/castd/Room" = true := by first | (simp [plainName, overriddenIn]; done) | decide +kernel
theorem own_pn26 : plainName "com/example/castd/castd/RoomFitsPinLaw" = true := by first | (simp [plainName, overriddenIn]; done) | decide +kernel
theorem own_pd63 : parseMethodDescriptor "(J)V" = some ⟨[.long], none⟩ := by decide +kernel
theorem own_pd64 : parseMethodDescriptor "(J)Z" = some ⟨[.long], some .boolean⟩ := by decide +kernel
theorem own_pd65 : parseMethodDescriptor "(JJJ)Z" = some ⟨[.long, .long, .long], some .boolean⟩ := by decide +kernel
theorem own_pd66 : parseMethodDescriptor "()J" = some ⟨[], some .long⟩ := by decide +kernel
-- body 1
theorem own_d1_0 : decode prog_38_method_1_code 0 = .ok (.aload_n 0, 1) := by decide +kernel
theorem own_d1_1 : decode prog_38_method_1_code 1 = .ok (.invokespecial 1, 3) := by decide +kernel
theorem own_d1_4 : decode prog_38_method_1_code 4 = .ok (.aload_n 0, 1) := by decide +kernel
theorem own_d1_5 : decode prog_38_method_1_code 5 = .ok (.lload_n 1, 1) := by decide +kernel
theorem own_d1_6 : decode prog_38_method_1_code 6 = .ok (.putfield 7, 3) := by decide +kernel
theorem own_d1_9 : decode prog_38_method_1_code 9 = .ok (.return_, 1) := by decide +kernel
theorem own_ef1 (m : MethodId) (x0 : Addr) (x1 : Int64) : entryFrame m #[(.ref x0), (.long x1)] 3 = mkF m 0 #[.val (.ref x0), .val (.long x1), .second] [] := by first | (simp [entryFrame, mkF, argsToLocals, Value.category]; done) | rfl
def own_Q1 (Z : State) (a1 : Addr) (q2 : Int64) (w_maxBytes_a1 : Int64) (w_bytes_a1 : Int64) (h0 : Heap) (n0 : Nat) (v : Option Value) (h : Heap) (L : List Loc) : Prop := v = none ∧ Fr n0 L ∧ Keep h0 h [a1] ∧ Exa Z h a1 "com/example/castd/castd/Room" ∧ Fld Z h a1 "com/example/castd/castd/Room" "maxBytes" "J" (.long q2) ∧ Fld Z h a1 "com/example/castd/castd/Room" "bytes" "J" (.long w_bytes_a1)
set_option maxRecDepth 65536 in
set_option maxHeartbeats 40000000 in
theorem own_rm1 (l : Launch) (Z : State) (a0 : Array Value) (hw : ∀ d ∈ tables_1, d.before a0 Z = true) (ws : List Jvm.Cond) (a1 : Addr) (q2 : Int64) (w_maxBytes_a1 : Int64) (w_bytes_a1 : Int64) (h0 : Heap) (n0 : Nat) (Z0 : n0 ≤ h0.size) (E_a1 : Exa Z h0 a1 "com/example/castd/castd/Room") (F_maxBytes_a1 : Fld Z h0 a1 "com/example/castd/castd/Room" "maxBytes" "J" (.long w_maxBytes_a1)) (g_a1 : n0 ≤ a1) (F_bytes_a1 : Fld Z h0 a1 "com/example/castd/castd/Room" "bytes" "J" (.long w_bytes_a1)) :
    MetFree l (⟨"com/example/castd/castd/Room", "<init>", "(J)V"⟩ : MethodName) (head1 (Jvm.Cond.code (⟨"com/example/castd/castd/Room", "<init>", "(J)V"⟩ : MethodName) prog_38_method_1_code 3 none :: ws) ({ frames := 1, cells := 0, slots := 0, locals := 12 } : Room)) (fun a U => a = #[(.ref a1), (.long q2)] ∧ Z.Warmed39 U.vm ∧ U.heap = h0) (fun _ _ _ _ _ => True) (fun _ U o U' => ∃ v L, o = .returned v ∧ own_Q1 Z a1 q2 w_maxBytes_a1 w_bytes_a1 h0 n0 v U'.heap L ∧ FrameEnd U o U' L ({ frames := 1, cells := 0, slots := 0, locals := 12 } : Room).cells ({ frames := 1, cells := 0, slots := 0, locals := 12 } : Room).slots) := by
  refine MetFree.of_bodySF (plainFor_of_name own_pn0) hisR ?_
  intro p e s m args below meth c s₁ Bd hml0 hP hK
  obtain ⟨rfl, hZ, hh⟩ := hP
  have hx := Bd.exec
  have hby := Bd.bytes
  have hml : c.maxLocals = 3 := hml0
  have hown : s.vm.findClass "com/example/castd/castd/Room" = some m.cls := findClass_of_methodNamed Bd.named
  have hnm := (name_of_methodNamed Bd.named Bd.method).1
  have X0 : Stand p l e ({ frames := 1, cells := 0, slots := 0, locals := 12 } : Room) s m #[(.ref a1), (.long q2)] below meth c s₁ [] 0 0 := Stand.of_body Bd
  have e0 : s₁.heap = h0 := by rw [← hh, Bd.state]; rfl
  have N0 := Fr.nil n0
  have pre0 : ∀ t, Steps p.tables e below (s₁.setTop (mkF m 0 #[.val (.ref a1), .val (.long q2), .second] [])) t → Steps p.tables e below (s₁.setTop (entryFrame m #[(.ref a1), (.long q2)] 3)) t := fun t k => castTop (own_ef1 m a1 q2) k
  obtain ⟨T1, X1, e1, st1⟩ := initO X0 hx hZ hown (hw _ (List.mem_of_getElem? (i := 7) rfl)) (hw _ (List.mem_of_getElem? (i := 8) rfl)) (hw _ (List.mem_of_getElem? (i := 9) rfl)) e0 (g := (mkF m 1 #[.val (.ref a1), .val (.long q2), .second] [(.ref a1)])) rfl (by rw [hml]; rfl) rfl (hb hby own_d1_1) (by decide) (W := 0) (by show 2 * 0 + _ ≤ _; exact Nat.le_of_eq rfl) (by decide)
  obtain ⟨T2, h2, X2, e2, W2, st2⟩ := putF X1 hx hZ hown (host := "") (Or.inl (hw _ (List.mem_of_getElem? (i := 10) rfl))) Via.refl e1 F_maxBytes_a1 E_a1 (Or.inr ⟨(hw _ (List.mem_of_getElem? (i := 11) rfl)), rfl, hnm⟩) (hw _ (List.mem_of_getElem? (i := 2) rfl)) (ty := .long) (by decide) rfl rfl (g := (mkF m 6 #[.val (.ref a1), .val (.long q2), .second] [(.long q2), (.ref a1)])) rfl rfl (hb hby own_d1_6)
  have N3 := Fr.snoc X2 N0 g_a1
  have Z4 := Nat.le_trans Z0 (Keep.of_wr W2).1
  have K5 : Keep h0 h2 [a1] := (Keep.refl h0 _).wr W2 (Or.inl (List.mem_of_getElem? (i := 0) rfl))
  have f6 := E_a1.wr W2
  have f7 := F_maxBytes_a1.same W2
  have f8 := F_bytes_a1.other W2 (Or.inr (slot_ne (Or.inl (hw _ (List.mem_of_getElem? (i := 18) rfl))) (Or.inr (hw _ (List.mem_of_getElem? (i := 11) rfl))) (by decide) (t := .long) (t' := .long) (by decide) (by decide)))
  obtain ⟨fs, hr, hrun, hended, hW, hsame⟩ := X2.leave (v := none) (fun _ => rfl)
  refine ⟨_, _, pre0 _ ?_, hrun, hended, _, _, rfl, ?_, ⟨_, rfl⟩, hW, hsame.mono (by decide) (by decide)⟩
  · show Steps p.tables e below (s₁.setTop (mkF m 0 #[.val (.ref a1), .val (.long q2), .second] [])) _
    refine XS.aloadN X0.here hx rfl (hb hby own_d1_0) rfl rfl ?_
    show Steps p.tables e below (s₁.setTop (mkF m 1 #[.val (.ref a1), .val (.long q2), .second] [(.ref a1)])) _
    refine st1 _ ?_
    show Steps p.tables e below (T1.setTop (mkF m 4 #[.val (.ref a1), .val (.long q2), .second] [])) _
    refine XS.aloadN X1.here hx rfl (hb hby own_d1_4) rfl rfl ?_
    show Steps p.tables e below (T1.setTop (mkF m 5 #[.val (.ref a1), .val (.long q2), .second] [(.ref a1)])) _
    refine XS.lloadN X1.here hx rfl (hb hby own_d1_5) rfl ?_
    show Steps p.tables e below (T1.setTop (mkF m 6 #[.val (.ref a1), .val (.long q2), .second] [(.long q2), (.ref a1)])) _
    refine st2 _ ?_
    show Steps p.tables e below (T2.setTop (mkF m 9 #[.val (.ref a1), .val (.long q2), .second] [])) _
    exact X2.returnOut hx Bd.returns (hb hby own_d1_9) hr
  · show own_Q1 Z a1 q2 w_maxBytes_a1 w_bytes_a1 h0 n0 _ T2.heap _
    rw [e2]
    exact ⟨rfl, N3, K5, f6, f7, f8⟩
-- body 3
theorem own_d3_0 : decode prog_38_method_8_code 0 = .ok (.aload_n 0, 1) := by decide +kernel
theorem own_d3_1 : decode prog_38_method_8_code 1 = .ok (.dup, 1) := by decide +kernel
theorem own_d3_2 : decode prog_38_method_8_code 2 = .ok (.getfield 23, 3) := by decide +kernel
theorem own_d3_5 : decode prog_38_method_8_code 5 = .ok (.lload_n 1, 1) := by decide +kernel
theorem own_d3_6 : decode prog_38_method_8_code 6 = .ok (.ladd, 1) := by decide +kernel
theorem own_d3_7 : decode prog_38_method_8_code 7 = .ok (.putfield 23, 3) := by decide +kernel
theorem own_d3_10 : decode prog_38_method_8_code 10 = .ok (.return_, 1) := by decide +kernel
theorem own_ef3 (m : MethodId) (x0 : Addr) (x1 : Int64) : entryFrame m #[(.ref x0), (.long x1)] 3 = mkF m 0 #[.val (.ref x0), .val (.long x1), .second] [] := by first | (simp [entryFrame, mkF, argsToLocals, Value.category]; done) | rfl
def own_Q3 (Z : State) (a1 : Addr) (q2 : Int64) (w_bytes_a1 : Int64) (w_maxBytes_a1 : Int64) (h0 : Heap) (n0 : Nat) (v : Option Value) (h : Heap) (L : List Loc) : Prop := v = none ∧ Fr n0 L ∧ Keep h0 h [a1] ∧ Exa Z h a1 "com/example/castd/castd/Room" ∧ Fld Z h a1 "com/example/castd/castd/Room" "bytes" "J" (.long (w_bytes_a1 + q2)) ∧ Fld Z h a1 "com/example/castd/castd/Room" "maxBytes" "J" (.long w_maxBytes_a1)
set_option maxRecDepth 65536 in
set_option maxHeartbeats 40000000 in
theorem own_rm3 (l : Launch) (Z : State) (a0 : Array Value) (hw : ∀ d ∈ tables_1, d.before a0 Z = true) (ws : List Jvm.Cond) (a1 : Addr) (q2 : Int64) (w_bytes_a1 : Int64) (w_maxBytes_a1 : Int64) (h0 : Heap) (n0 : Nat) (Z0 : n0 ≤ h0.size) (F_bytes_a1 : Fld Z h0 a1 "com/example/castd/castd/Room" "bytes" "J" (.long w_bytes_a1)) (E_a1 : Exa Z h0 a1 "com/example/castd/castd/Room") (g_a1 : n0 ≤ a1) (F_maxBytes_a1 : Fld Z h0 a1 "com/example/castd/castd/Room" "maxBytes" "J" (.long w_maxBytes_a1)) :
    MetFree l (⟨"com/example/castd/castd/Room", "add", "(J)V"⟩ : MethodName) (head1 (Jvm.Cond.code (⟨"com/example/castd/castd/Room", "add", "(J)V"⟩ : MethodName) prog_38_method_8_code 3 none :: ws) ({ frames := 0, cells := 0, slots := 0, locals := 0 } : Room)) (fun a U => a = #[(.ref a1), (.long q2)] ∧ Z.Warmed39 U.vm ∧ U.heap = h0) (fun _ _ _ _ _ => True) (fun _ U o U' => ∃ v L, o = .returned v ∧ own_Q3 Z a1 q2 w_bytes_a1 w_maxBytes_a1 h0 n0 v U'.heap L ∧ FrameEnd U o U' L ({ frames := 0, cells := 0, slots := 0, locals := 0 } : Room).cells ({ frames := 0, cells := 0, slots := 0, locals := 0 } : Room).slots) := by
  refine MetFree.of_bodySF (plainFor_of_name own_pn0) hisR ?_
  intro p e s m args below meth c s₁ Bd hml0 hP hK
  obtain ⟨rfl, hZ, hh⟩ := hP
  have hx := Bd.exec
  have hby := Bd.bytes
  have hml : c.maxLocals = 3 := hml0
  have hown : s.vm.findClass "com/example/castd/castd/Room" = some m.cls := findClass_of_methodNamed Bd.named
  have hnm := (name_of_methodNamed Bd.named Bd.method).1
  have X0 : Stand p l e ({ frames := 0, cells := 0, slots := 0, locals := 0 } : Room) s m #[(.ref a1), (.long q2)] below meth c s₁ [] 0 0 := Stand.of_body Bd
  have e0 : s₁.heap = h0 := by rw [← hh, Bd.state]; rfl
  have N0 := Fr.nil n0
  have pre0 : ∀ t, Steps p.tables e below (s₁.setTop (mkF m 0 #[.val (.ref a1), .val (.long q2), .second] [])) t → Steps p.tables e below (s₁.setTop (entryFrame m #[(.ref a1), (.long q2)] 3)) t := fun t k => castTop (own_ef3 m a1 q2) k
  obtain ⟨T1, X1, e1, st1⟩ := getF X0 hx hZ hown (host := "") (Or.inl (hw _ (List.mem_of_getElem? (i := 17) rfl))) Via.refl e0 F_bytes_a1 (g := (mkF m 2 #[.val (.ref a1), .val (.long q2), .second] [(.ref a1), (.ref a1)])) rfl rfl (hb hby own_d3_2)
  obtain ⟨T2, h2, X2, e2, W2, st2⟩ := putF X1 hx hZ hown (host := "") (Or.inl (hw _ (List.mem_of_getElem? (i := 17) rfl))) Via.refl e1 F_bytes_a1 E_a1 (Or.inl (hw _ (List.mem_of_getElem? (i := 18) rfl))) (hw _ (List.mem_of_getElem? (i := 2) rfl)) (ty := .long) (by decide) rfl rfl (g := (mkF m 7 #[.val (.ref a1), .val (.long q2), .second] [(.long (w_bytes_a1 + q2)), (.ref a1)])) rfl rfl (hb hby own_d3_7)
  have N3 := Fr.snoc X2 N0 g_a1
  have Z4 := Nat.le_trans Z0 (Keep.of_wr W2).1
  have K5 : Keep h0 h2 [a1] := (Keep.refl h0 _).wr W2 (Or.inl (List.mem_of_getElem? (i := 0) rfl))
  have f6 := F_bytes_a1.same W2
  have f7 := E_a1.wr W2
  have f8 := F_maxBytes_a1.other W2 (Or.inr (slot_ne (Or.inr (hw _ (List.mem_of_getElem? (i := 11) rfl))) (Or.inl (hw _ (List.mem_of_getElem? (i := 18) rfl))) (by decide) (t := .long) (t' := .long) (by decide) (by decide)))
  obtain ⟨fs, hr, hrun, hended, hW, hsame⟩ := X2.leave (v := none) (fun _ => rfl)
  refine ⟨_, _, pre0 _ ?_, hrun, hended, _, _, rfl, ?_, ⟨_, rfl⟩, hW, hsame.mono (by decide) (by decide)⟩
  · show Steps p.tables e below (s₁.setTop (mkF m 0 #[.val (.ref a1), .val (.long q2), .second] [])) _
    refine XS.aloadN X0.here hx rfl (hb hby own_d3_0) rfl rfl ?_
    show Steps p.tables e below (s₁.setTop (mkF m 1 #[.val (.ref a1), .val (.long q2), .second] [(.ref a1)])) _
    refine XS.dup X0.here hx rfl (hb hby own_d3_1) rfl rfl ?_
    show Steps p.tables e below (s₁.setTop (mkF m 2 #[.val (.ref a1), .val (.long q2), .second] [(.ref a1), (.ref a1)])) _
    refine st1 _ ?_
    show Steps p.tables e below (T1.setTop (mkF m 5 #[.val (.ref a1), .val (.long q2), .second] [(.long w_bytes_a1), (.ref a1)])) _
    refine XS.lloadN X1.here hx rfl (hb hby own_d3_5) rfl ?_
    show Steps p.tables e below (T1.setTop (mkF m 6 #[.val (.ref a1), .val (.long q2), .second] [(.long q2), (.long w_bytes_a1), (.ref a1)])) _
    refine XS.ladd X1.here hx rfl (hb hby own_d3_6) rfl ?_
    show Steps p.tables e below (T1.setTop (mkF m 7 #[.val (.ref a1), .val (.long q2), .second] [(.long (w_bytes_a1 + q2)), (.ref a1)])) _
    refine st2 _ ?_
    show Steps p.tables e below (T2.setTop (mkF m 10 #[.val (.ref a1), .val (.long q2), .second] [])) _
    exact X2.returnOut hx Bd.returns (hb hby own_d3_10) hr
  · show own_Q3 Z a1 q2 w_bytes_a1 w_maxBytes_a1 h0 n0 _ T2.heap _
    rw [e2]
    exact ⟨rfl, N3, K5, f7, f6, f8⟩
-- body 4
theorem own_d4_0 : decode prog_38_method_6_code 0 = .ok (.lload_n 1, 1) := by decide +kernel
theorem own_d4_1 : decode prog_38_method_6_code 1 = .ok (.aload_n 0, 1) := by decide +kernel
theorem own_d4_2 : decode prog_38_method_6_code 2 = .ok (.getfield 7, 3) := by decide +kernel
theorem own_d4_5 : decode prog_38_method_6_code 5 = .ok (.aload_n 0, 1) := by decide +kernel
theorem own_d4_6 : decode prog_38_method_6_code 6 = .ok (.getfield 23, 3) := by decide +kernel
theorem own_d4_9 : decode prog_38_method_6_code 9 = .ok (.lsub, 1) := by decide +kernel
theorem own_d4_10 : decode prog_38_method_6_code 10 = .ok (.lcmp, 1) := by decide +kernel
theorem own_d4_11 : decode prog_38_method_6_code 11 = .ok (.ifCond .gt 7, 3) := by decide +kernel
theorem own_d4_14 : decode prog_38_method_6_code 14 = .ok (.iconst 1, 1) := by decide +kernel
theorem own_d4_15 : decode prog_38_method_6_code 15 = .ok (.goto 4, 3) := by decide +kernel
theorem own_d4_18 : decode prog_38_method_6_code 18 = .ok (.iconst 0, 1) := by decide +kernel
theorem own_d4_19 : decode prog_38_method_6_code 19 = .ok (.ireturn, 1) := by decide +kernel
theorem own_ef4 (m : MethodId) (x0 : Addr) (x1 : Int64) : entryFrame m #[(.ref x0), (.long x1)] 3 = mkF m 0 #[.val (.ref x0), .val (.long x1), .second] [] := by first | (simp [entryFrame, mkF, argsToLocals, Value.category]; done) | rfl
def own_f4 (q2 : Int64) (w_maxBytes_a1 : Int64) (w_bytes_a1 : Int64) : Int32 := if (0 : Int32) < (lcmpW q2 (w_maxBytes_a1 - w_bytes_a1)) then (0 : Int32)
    else (1 : Int32)
def own_Q4 (Z : State) (a1 : Addr) (q2 : Int64) (w_maxBytes_a1 : Int64) (w_bytes_a1 : Int64) (h0 : Heap) (n0 : Nat) (v : Option Value) (h : Heap) (L : List Loc) : Prop := v = some (.int (own_f4 q2 w_maxBytes_a1 w_bytes_a1)) ∧ Fr n0 L ∧ h = h0
set_option maxRecDepth 65536 in
set_option maxHeartbeats 40000000 in
theorem own_rm4 (l : Launch) (Z : State) (a0 : Array Value) (hw : ∀ d ∈ tables_1, d.before a0 Z = true) (ws : List Jvm.Cond) (a1 : Addr) (q2 : Int64) (w_maxBytes_a1 : Int64) (w_bytes_a1 : Int64) (h0 : Heap) (n0 : Nat) (Z0 : n0 ≤ h0.size) (F_maxBytes_a1 : Fld Z h0 a1 "com/example/castd/castd/Room" "maxBytes" "J" (.long w_maxBytes_a1)) (F_bytes_a1 : Fld Z h0 a1 "com/example/castd/castd/Room" "bytes" "J" (.long w_bytes_a1)) :
    MetFree l (⟨"com/example/castd/castd/Room", "fits", "(J)Z"⟩ : MethodName) (head1 (Jvm.Cond.code (⟨"com/example/castd/castd/Room", "fits", "(J)Z"⟩ : MethodName) prog_38_method_6_code 3 (some .boolean) :: ws) ({ frames := 0, cells := 0, slots := 0, locals := 0 } : Room)) (fun a U => a = #[(.ref a1), (.long q2)] ∧ Z.Warmed39 U.vm ∧ U.heap = h0) (fun _ _ _ _ _ => True) (fun _ U o U' => ∃ v L, o = .returned v ∧ own_Q4 Z a1 q2 w_maxBytes_a1 w_bytes_a1 h0 n0 v U'.heap L ∧ FrameEnd U o U' L ({ frames := 0, cells := 0, slots := 0, locals := 0 } : Room).cells ({ frames := 0, cells := 0, slots := 0, locals := 0 } : Room).slots) := by
  refine MetFree.of_bodySF (plainFor_of_name own_pn0) hisR ?_
  intro p e s m args below meth c s₁ Bd hml0 hP hK
  obtain ⟨rfl, hZ, hh⟩ := hP
  have hx := Bd.exec
  have hby := Bd.bytes
  have hml : c.maxLocals = 3 := hml0
  have hown : s.vm.findClass "com/example/castd/castd/Room" = some m.cls := findClass_of_methodNamed Bd.named
  have hnm := (name_of_methodNamed Bd.named Bd.method).1
  have X0 : Stand p l e ({ frames := 0, cells := 0, slots := 0, locals := 0 } : Room) s m #[(.ref a1), (.long q2)] below meth c s₁ [] 0 0 := Stand.of_body Bd
  have e0 : s₁.heap = h0 := by rw [← hh, Bd.state]; rfl
  have N0 := Fr.nil n0
  have pre0 : ∀ t, Steps p.tables e below (s₁.setTop (mkF m 0 #[.val (.ref a1), .val (.long q2), .second] [])) t → Steps p.tables e below (s₁.setTop (entryFrame m #[(.ref a1), (.long q2)] 3)) t := fun t k => castTop (own_ef4 m a1 q2) k
  obtain ⟨T1, X1, e1, st1⟩ := getF X0 hx hZ hown (host := "") (Or.inl (hw _ (List.mem_of_getElem? (i := 10) rfl))) Via.refl e0 F_maxBytes_a1 (g := (mkF m 2 #[.val (.ref a1), .val (.long q2), .second] [(.ref a1), (.long q2)])) rfl rfl (hb hby own_d4_2)
  obtain ⟨T2, X2, e2, st2⟩ := getF X1 hx hZ hown (host := "") (Or.inl (hw _ (List.mem_of_getElem? (i := 17) rfl))) Via.refl e1 F_bytes_a1 (g := (mkF m 6 #[.val (.ref a1), .val (.long q2), .second] [(.ref a1), (.long w_maxBytes_a1), (.long q2)])) rfl rfl (hb hby own_d4_6)
  have k3 : ∀ t, Steps p.tables e below (T2.setTop (mkF m 11 #[.val (.ref a1), .val (.long q2), .second] [(.int (lcmpW q2 (w_maxBytes_a1 - w_bytes_a1)))])) t → Steps p.tables e below (s₁.setTop (entryFrame m #[(.ref a1), (.long q2)] 3)) t := by
    intro t kt
    refine pre0 t ?_
    show Steps p.tables e below (s₁.setTop (mkF m 0 #[.val (.ref a1), .val (.long q2), .second] [])) _
    refine XS.lloadN X0.here hx rfl (hb hby own_d4_0) rfl ?_
    show Steps p.tables e below (s₁.setTop (mkF m 1 #[.val (.ref a1), .val (.long q2), .second] [(.long q2)])) _
    refine XS.aloadN X0.here hx rfl (hb hby own_d4_1) rfl rfl ?_
    show Steps p.tables e below (s₁.setTop (mkF m 2 #[.val (.ref a1), .val (.long q2), .second] [(.ref a1), (.long q2)])) _
    refine st1 _ ?_
    show Steps p.tables e below (T1.setTop (mkF m 5 #[.val (.ref a1), .val (.long q2), .second] [(.long w_maxBytes_a1), (.long q2)])) _
    refine XS.aloadN X1.here hx rfl (hb hby own_d4_5) rfl rfl ?_
    show Steps p.tables e below (T1.setTop (mkF m 6 #[.val (.ref a1), .val (.long q2), .second] [(.ref a1), (.long w_maxBytes_a1), (.long q2)])) _
    refine st2 _ ?_
    show Steps p.tables e below (T2.setTop (mkF m 9 #[.val (.ref a1), .val (.long q2), .second] [(.long w_bytes_a1), (.long w_maxBytes_a1), (.long q2)])) _
    refine XS.lsub X2.here hx rfl (hb hby own_d4_9) rfl ?_
    show Steps p.tables e below (T2.setTop (mkF m 10 #[.val (.ref a1), .val (.long q2), .second] [(.long (w_maxBytes_a1 - w_bytes_a1)), (.long q2)])) _
    refine XS.lcmp X2.here hx rfl (hb hby own_d4_10) rfl ?_
    exact kt
  by_cases hc1 : (0 : Int32) < (lcmpW q2 (w_maxBytes_a1 - w_bytes_a1))
  ·
    obtain ⟨fs, hr, hrun, hended, hW, hsame⟩ := X2.leave (v := some (.int (0 : Int32))) (fun h => by rw [Bd.returns] at h; cases h)
    refine ⟨_, _, k3 _ ?_, hrun, hended, _, _, rfl, ?_, ⟨_, rfl⟩, hW, hsame.mono (by decide) (by decide)⟩
    · show Steps p.tables e below (T2.setTop (mkF m 11 #[.val (.ref a1), .val (.long q2), .second] [(.int (lcmpW q2 (w_maxBytes_a1 - w_bytes_a1)))])) _
      refine XS.ifYes X2.here hx rfl (pc0 := 11) (pc' := 18) rfl (hb hby own_d4_11) rfl ((if0 _ _).trans (tlt hc1).2.2.1) (by decide) (by decide) ?_
      show Steps p.tables e below (T2.setTop (mkF m 18 #[.val (.ref a1), .val (.long q2), .second] [])) _
      refine XS.iconst X2.here hx rfl (hb hby own_d4_18) ?_
      show Steps p.tables e below (T2.setTop (mkF m 19 #[.val (.ref a1), .val (.long q2), .second] [(.int (0 : Int32))])) _
      exact retN X2 hx (t := .boolean) Bd.returns (by simp) (hb hby own_d4_19) hr
    · show own_Q4 Z a1 q2 w_maxBytes_a1 w_bytes_a1 h0 n0 _ T2.heap _
      rw [e2]
      exact ⟨(by rw [own_f4, if_pos hc1]), N0, rfl⟩
  ·
    obtain ⟨fs, hr, hrun, hended, hW, hsame⟩ := X2.leave (v := some (.int (1 : Int32))) (fun h => by rw [Bd.returns] at h; cases h)
    refine ⟨_, _, k3 _ ?_, hrun, hended, _, _, rfl, ?_, ⟨_, rfl⟩, hW, hsame.mono (by decide) (by decide)⟩
    · show Steps p.tables e below (T2.setTop (mkF m 11 #[.val (.ref a1), .val (.long q2), .second] [(.int (lcmpW q2 (w_maxBytes_a1 - w_bytes_a1)))])) _
      refine XS.ifNo X2.here hx rfl (hb hby own_d4_11) rfl ((if0 _ _).trans (flt hc1).2.2.1) ?_
      show Steps p.tables e below (T2.setTop (mkF m 14 #[.val (.ref a1), .val (.long q2), .second] [])) _
      refine XS.iconst X2.here hx rfl (hb hby own_d4_14) ?_
      show Steps p.tables e below (T2.setTop (mkF m 15 #[.val (.ref a1), .val (.long q2), .second] [(.int (1 : Int32))])) _
      refine XS.goto X2.here hx rfl (pc0 := 15) (pc' := 19) rfl (hb hby own_d4_15) (by decide) (by decide) ?_
      show Steps p.tables e below (T2.setTop (mkF m 19 #[.val (.ref a1), .val (.long q2), .second] [(.int (1 : Int32))])) _
      exact retN X2 hx (t := .boolean) Bd.returns (by simp) (hb hby own_d4_19) hr
    · show own_Q4 Z a1 q2 w_maxBytes_a1 w_bytes_a1 h0 n0 _ T2.heap _
      rw [e2]
      exact ⟨(by rw [own_f4, if_neg hc1]), N0, rfl⟩
-- body 5
theorem own_d5_0 : decode method_3_code 0 = .ok (.lload 4, 2) := by decide +kernel
theorem own_d5_2 : decode method_3_code 2 = .ok (.lconst 0, 1) := by decide +kernel
theorem own_d5_3 : decode method_3_code 3 = .ok (.lcmp, 1) := by decide +kernel
theorem own_d5_4 : decode method_3_code 4 = .ok (.ifCond .lt 27, 3) := by decide +kernel
theorem own_d5_7 : decode method_3_code 7 = .ok (.lload 4, 2) := by decide +kernel
theorem own_d5_9 : decode method_3_code 9 = .ok (.lload_n 0, 1) := by decide +kernel
theorem own_d5_10 : decode method_3_code 10 = .ok (.lcmp, 1) := by decide +kernel
theorem own_d5_11 : decode method_3_code 11 = .ok (.ifCond .le 5, 3) := by decide +kernel
theorem own_d5_14 : decode method_3_code 14 = .ok (.iconst 0, 1) := by decide +kernel
theorem own_d5_15 : decode method_3_code 15 = .ok (.ireturn, 1) := by decide +kernel
theorem own_d5_16 : decode method_3_code 16 = .ok (.lload_n 2, 1) := by decide +kernel
theorem own_d5_17 : decode method_3_code 17 = .ok (.lload_n 0, 1) := by decide +kernel
theorem own_d5_18 : decode method_3_code 18 = .ok (.lload 4, 2) := by decide +kernel
theorem own_d5_20 : decode method_3_code 20 = .ok (.lsub, 1) := by decide +kernel
theorem own_d5_21 : decode method_3_code 21 = .ok (.lcmp, 1) := by decide +kernel
theorem own_d5_22 : decode method_3_code 22 = .ok (.ifCond .gt 7, 3) := by decide +kernel
theorem own_d5_25 : decode method_3_code 25 = .ok (.iconst 1, 1) := by decide +kernel
theorem own_d5_26 : decode method_3_code 26 = .ok (.goto 4, 3) := by decide +kernel
theorem own_d5_29 : decode method_3_code 29 = .ok (.iconst 0, 1) := by decide +kernel
theorem own_d5_30 : decode method_3_code 30 = .ok (.ireturn, 1) := by decide +kernel
theorem own_d5_31 : decode method_3_code 31 = .ok (.lload 4, 2) := by decide +kernel
theorem own_d5_33 : decode method_3_code 33 = .ok (.lload_n 2, 1) := by decide +kernel
theorem own_d5_34 : decode method_3_code 34 = .ok (.ladd, 1) := by decide +kernel
theorem own_d5_35 : decode method_3_code 35 = .ok (.lload_n 0, 1) := by decide +kernel
theorem own_d5_36 : decode method_3_code 36 = .ok (.lcmp, 1) := by decide +kernel
theorem own_d5_37 : decode method_3_code 37 = .ok (.ifCond .gt 7, 3) := by decide +kernel
theorem own_d5_40 : decode method_3_code 40 = .ok (.iconst 1, 1) := by decide +kernel
theorem own_d5_41 : decode method_3_code 41 = .ok (.goto 4, 3) := by decide +kernel
theorem own_d5_44 : decode method_3_code 44 = .ok (.iconst 0, 1) := by decide +kernel
theorem own_d5_45 : decode method_3_code 45 = .ok (.ireturn, 1) := by decide +kernel
theorem own_ef5 (m : MethodId) (x0 : Int64) (x1 : Int64) (x2 : Int64) : entryFrame m #[(.long x0), (.long x1), (.long x2)] 6 = mkF m 0 #[.val (.long x0), .second, .val (.long x1), .second, .val (.long x2), .second] [] := by first | (simp [entryFrame, mkF, argsToLocals, Value.category]; done) | rfl
def own_f5 (q1 : Int64) (q2 : Int64) (q3 : Int64) : Int32 := if (lcmpW q3 (0 : Int64)) < (0 : Int32) then (if (0 : Int32) < (lcmpW (q3 + q2) q1) then (0 : Int32)
      else (1 : Int32))
    else if (0 : Int32) < (lcmpW q3 q1) then (0 : Int32)
      else if (0 : Int32) < (lcmpW q2 (q1 - q3)) then (0 : Int32)
        else (1 : Int32)
def own_Q5 (Z : State) (q1 : Int64) (q2 : Int64) (q3 : Int64) (h0 : Heap) (n0 : Nat) (v : Option Value) (h : Heap) (L : List Loc) : Prop := v = some (.int (own_f5 q1 q2 q3)) ∧ Fr n0 L ∧ h = h0
set_option maxRecDepth 65536 in
set_option maxHeartbeats 40000000 in
theorem own_rm5 (l : Launch) (Z : State) (a0 : Array Value) (hw : ∀ d ∈ tables_1, d.before a0 Z = true) (ws : List Jvm.Cond) (q1 : Int64) (q2 : Int64) (q3 : Int64) (h0 : Heap) (n0 : Nat) (Z0 : n0 ≤ h0.size) :
    MetFree l (⟨"com/example/castd/castd/RoomFitsPinLaw", "expectedFits", "(JJJ)Z"⟩ : MethodName) (head1 (Jvm.Cond.code (⟨"com/example/castd/castd/RoomFitsPinLaw", "expectedFits", "(JJJ)Z"⟩ : MethodName) method_3_code 6 (some .boolean) :: ws) ({ frames := 0, cells := 0, slots := 0, locals := 0 } : Room)) (fun a U => a = #[(.long q1), (.long q2), (.long q3)] ∧ Z.Warmed39 U.vm ∧ U.heap = h0) (fun _ _ _ _ _ => True) (fun _ U o U' => ∃ v L, o = .returned v ∧ own_Q5 Z q1 q2 q3 h0 n0 v U'.heap L ∧ FrameEnd U o U' L ({ frames := 0, cells := 0, slots := 0, locals := 0 } : Room).cells ({ frames := 0, cells := 0, slots := 0, locals := 0 } : Room).slots) := by
  refine MetFree.of_bodySF (plainFor_of_name own_pn26) hisR ?_
  intro p e s m args below meth c s₁ Bd hml0 hP hK
  obtain ⟨rfl, hZ, hh⟩ := hP
  have hx := Bd.exec
  have hby := Bd.bytes
  have hml : c.maxLocals = 6 := hml0
  have hown : s.vm.findClass "com/example/castd/castd/RoomFitsPinLaw" = some m.cls := findClass_of_methodNamed Bd.named
  have hnm := (name_of_methodNamed Bd.named Bd.method).1
  have X0 : Stand p l e ({ frames := 0, cells := 0, slots := 0, locals := 0 } : Room) s m #[(.long q1), (.long q2), (.long q3)] below meth c s₁ [] 0 0 := Stand.of_body Bd
  have e0 : s₁.heap = h0 := by rw [← hh, Bd.state]; rfl
  have N0 := Fr.nil n0
  have pre0 : ∀ t, Steps p.tables e below (s₁.setTop (mkF m 0 #[.val (.long q1), .second, .val (.long q2), .second, .val (.long q3), .second] [])) t → Steps p.tables e below (s₁.setTop (entryFrame m #[(.long q1), (.long q2), (.long q3)] 6)) t := fun t k => castTop (own_ef5 m q1 q2 q3) k
  have k1 : ∀ t, Steps p.tables e below (s₁.setTop (mkF m 4 #[.val (.long q1), .second, .val (.long q2), .second, .val (.long q3), .second] [(.int (lcmpW q3 (0 : Int64)))])) t → Steps p.tables e below (s₁.setTop (entryFrame m #[(.long q1), (.long q2), (.long q3)] 6)) t := by
    intro t kt
    refine pre0 t ?_
    show Steps p.tables e below (s₁.setTop (mkF m 0 #[.val (.long q1), .second, .val (.long q2), .second, .val (.long q3), .second] [])) _
    refine XS.lload X0.here hx rfl (hb hby own_d5_0) rfl ?_
    show Steps p.tables e below (s₁.setTop (mkF m 2 #[.val (.long q1), .second, .val (.long q2), .second, .val (.long q3), .second] [(.long q3)])) _
    refine XS.lconst X0.here hx rfl (hb hby own_d5_2) ?_
    show Steps p.tables e below (s₁.setTop (mkF m 3 #[.val (.long q1), .second, .val (.long q2), .second, .val (.long q3), .second] [(.long (0 : Int64)), (.long q3)])) _
    refine XS.lcmp X0.here hx rfl (hb hby own_d5_3) rfl ?_
    exact kt
  by_cases hc1 : (lcmpW q3 (0 : Int64)) < (0 : Int32)
  ·
    have k2 : ∀ t, Steps p.tables e below (s₁.setTop (mkF m 37 #[.val (.long q1), .second, .val (.long q2), .second, .val (.long q3), .second] [(.int (lcmpW (q3 + q2) q1))])) t → Steps p.tables e below (s₁.setTop (entryFrame m #[(.long q1), (.long q2), (.long q3)] 6)) t := by
      intro t kt
      refine k1 t ?_
      show Steps p.tables e below (s₁.setTop (mkF m 4 #[.val (.long q1), .second, .val (.long q2), .second, .val (.long q3), .second] [(.int (lcmpW q3 (0 : Int64)))])) _
      refine XS.ifYes X0.here hx rfl (pc0 := 4) (pc' := 31) rfl (hb hby own_d5_4) rfl ((if0 _ _).trans (tlt hc1).1) (by decide) (by decide) ?_
      show Steps p.tables e below (s₁.setTop (mkF m 31 #[.val (.long q1), .second, .val (.long q2), .second, .val (.long q3), .second] [])) _
      refine XS.lload X0.here hx rfl (hb hby own_d5_31) rfl ?_
      show Steps p.tables e below (s₁.setTop (mkF m 33 #[.val (.long q1), .second, .val (.long q2), .second, .val (.long q3), .second] [(.long q3)])) _
      refine XS.lloadN X0.here hx rfl (hb hby own_d5_33) rfl ?_
      show Steps p.tables e below (s₁.setTop (mkF m 34 #[.val (.long q1), .second, .val (.long q2), .second, .val (.long q3), .second] [(.long q2), (.long q3)])) _
      refine XS.ladd X0.here hx rfl (hb hby own_d5_34) rfl ?_
      show Steps p.tables e below (s₁.setTop (mkF m 35 #[.val (.long q1), .second, .val (.long q2), .second, .val (.long q3), .second] [(.long (q3 + q2))])) _
      refine XS.lloadN X0.here hx rfl (hb hby own_d5_35) rfl ?_
      show Steps p.tables e below (s₁.setTop (mkF m 36 #[.val (.long q1), .second, .val (.long q2), .second, .val (.long q3), .second] [(.long q1), (.long (q3 + q2))])) _
      refine XS.lcmp X0.here hx rfl (hb hby own_d5_36) rfl ?_
      exact kt
    by_cases hc2 : (0 : Int32) < (lcmpW (q3 + q2) q1)
    ·
      obtain ⟨fs, hr, hrun, hended, hW, hsame⟩ := X0.leave (v := some (.int (0 : Int32))) (fun h => by rw [Bd.returns] at h; cases h)
      refine ⟨_, _, k2 _ ?_, hrun, hended, _, _, rfl, ?_, ⟨_, rfl⟩, hW, hsame.mono (by decide) (by decide)⟩
      · show Steps p.tables e below (s₁.setTop (mkF m 37 #[.val (.long q1), .second, .val (.long q2), .second, .val (.long q3), .second] [(.int (lcmpW (q3 + q2) q1))])) _
        refine XS.ifYes X0.here hx rfl (pc0 := 37) (pc' := 44) rfl (hb hby own_d5_37) rfl ((if0 _ _).trans (tlt hc2).2.2.1) (by decide) (by decide) ?_
        show Steps p.tables e below (s₁.setTop (mkF m 44 #[.val (.long q1), .second, .val (.long q2), .second, .val (.long q3), .second] [])) _
        refine XS.iconst X0.here hx rfl (hb hby own_d5_44) ?_
        show Steps p.tables e below (s₁.setTop (mkF m 45 #[.val (.long q1), .second, .val (.long q2), .second, .val (.long q3), .second] [(.int (0 : Int32))])) _
        exact retN X0 hx (t := .boolean) Bd.returns (by simp) (hb hby own_d5_45) hr
      · show own_Q5 Z q1 q2 q3 h0 n0 _ s₁.heap _
        rw [e0]
        exact ⟨(by rw [own_f5, if_pos hc1, if_pos hc2]), N0, rfl⟩
    ·
      obtain ⟨fs, hr, hrun, hended, hW, hsame⟩ := X0.leave (v := some (.int (1 : Int32))) (fun h => by rw [Bd.returns] at h; cases h)
      refine ⟨_, _, k2 _ ?_, hrun, hended, _, _, rfl, ?_, ⟨_, rfl⟩, hW, hsame.mono (by decide) (by decide)⟩
      · show Steps p.tables e below (s₁.setTop (mkF m 37 #[.val (.long q1), .second, .val (.long q2), .second, .val (.long q3), .second] [(.int (lcmpW (q3 + q2) q1))])) _
        refine XS.ifNo X0.here hx rfl (hb hby own_d5_37) rfl ((if0 _ _).trans (flt hc2).2.2.1) ?_
        show Steps p.tables e below (s₁.setTop (mkF m 40 #[.val (.long q1), .second, .val (.long q2), .second, .val (.long q3), .second] [])) _
        refine XS.iconst X0.here hx rfl (hb hby own_d5_40) ?_
        show Steps p.tables e below (s₁.setTop (mkF m 41 #[.val (.long q1), .second, .val (.long q2), .second, .val (.long q3), .second] [(.int (1 : Int32))])) _
        refine XS.goto X0.here hx rfl (pc0 := 41) (pc' := 45) rfl (hb hby own_d5_41) (by decide) (by decide) ?_
        show Steps p.tables e below (s₁.setTop (mkF m 45 #[.val (.long q1), .second, .val (.long q2), .second, .val (.long q3), .second] [(.int (1 : Int32))])) _
        exact retN X0 hx (t := .boolean) Bd.returns (by simp) (hb hby own_d5_45) hr
      · show own_Q5 Z q1 q2 q3 h0 n0 _ s₁.heap _
        rw [e0]
        exact ⟨(by rw [own_f5, if_pos hc1, if_neg hc2]), N0, rfl⟩
  ·
    have k3 : ∀ t, Steps p.tables e below (s₁.setTop (mkF m 11 #[.val (.long q1), .second, .val (.long q2), .second, .val (.long q3), .second] [(.int (lcmpW q3 q1))])) t → Steps p.tables e below (s₁.setTop (entryFrame m #[(.long q1), (.long q2), (.long q3)] 6)) t := by
      intro t kt
      refine k1 t ?_
      show Steps p.tables e below (s₁.setTop (mkF m 4 #[.val (.long q1), .second, .val (.long q2), .second, .val (.long q3), .second] [(.int (lcmpW q3 (0 : Int64)))])) _
      refine XS.ifNo X0.here hx rfl (hb hby own_d5_4) rfl ((if0 _ _).trans (flt hc1).1) ?_
      show Steps p.tables e below (s₁.setTop (mkF m 7 #[.val (.long q1), .second, .val (.long q2), .second, .val (.long q3), .second] [])) _
      refine XS.lload X0.here hx rfl (hb hby own_d5_7) rfl ?_
      show Steps p.tables e below (s₁.setTop (mkF m 9 #[.val (.long q1), .second, .val (.long q2), .second, .val (.long q3), .second] [(.long q3)])) _
      refine XS.lloadN X0.here hx rfl (hb hby own_d5_9) rfl ?_
      show Steps p.tables e below (s₁.setTop (mkF m 10 #[.val (.long q1), .second, .val (.long q2), .second, .val (.long q3), .second] [(.long q1), (.long q3)])) _
      refine XS.lcmp X0.here hx rfl (hb hby own_d5_10) rfl ?_
      exact kt
    by_cases hc3 : (0 : Int32) < (lcmpW q3 q1)
    ·
      obtain ⟨fs, hr, hrun, hended, hW, hsame⟩ := X0.leave (v := some (.int (0 : Int32))) (fun h => by rw [Bd.returns] at h; cases h)
      refine ⟨_, _, k3 _ ?_, hrun, hended, _, _, rfl, ?_, ⟨_, rfl⟩, hW, hsame.mono (by decide) (by decide)⟩
      · show Steps p.tables e below (s₁.setTop (mkF m 11 #[.val (.long q1), .second, .val (.long q2), .second, .val (.long q3), .second] [(.int (lcmpW q3 q1))])) _
        refine XS.ifNo X0.here hx rfl (hb hby own_d5_11) rfl ((if0 _ _).trans (tlt hc3).2.2.2) ?_
        show Steps p.tables e below (s₁.setTop (mkF m 14 #[.val (.long q1), .second, .val (.long q2), .second, .val (.long q3), .second] [])) _
        refine XS.iconst X0.here hx rfl (hb hby own_d5_14) ?_
        show Steps p.tables e below (s₁.setTop (mkF m 15 #[.val (.long q1), .second, .val (.long q2), .second, .val (.long q3), .second] [(.int (0 : Int32))])) _
        exact retN X0 hx (t := .boolean) Bd.returns (by simp) (hb hby own_d5_15) hr
      · show own_Q5 Z q1 q2 q3 h0 n0 _ s₁.heap _
        rw [e0]
        exact ⟨(by rw [own_f5, if_neg hc1, if_pos hc3]), N0, rfl⟩
    ·
      have k4 : ∀ t, Steps p.tables e below (s₁.setTop (mkF m 22 #[.val (.long q1), .second, .val (.long q2), .second, .val (.long q3), .second] [(.int (lcmpW q2 (q1 - q3)))])) t → Steps p.tables e below (s₁.setTop (entryFrame m #[(.long q1), (.long q2), (.long q3)] 6)) t := by
        intro t kt
        refine k3 t ?_
        show Steps p.tables e below (s₁.setTop (mkF m 11 #[.val (.long q1), .second, .val (.long q2), .second, .val (.long q3), .second] [(.int (lcmpW q3 q1))])) _
        refine XS.ifYes X0.here hx rfl (pc0 := 11) (pc' := 16) rfl (hb hby own_d5_11) rfl ((if0 _ _).trans (flt hc3).2.2.2) (by decide) (by decide) ?_
        show Steps p.tables e below (s₁.setTop (mkF m 16 #[.val (.long q1), .second, .val (.long q2), .second, .val (.long q3), .second] [])) _
        refine XS.lloadN X0.here hx rfl (hb hby own_d5_16) rfl ?_
        show Steps p.tables e below (s₁.setTop (mkF m 17 #[.val (.long q1), .second, .val (.long q2), .second, .val (.long q3), .second] [(.long q2)])) _
        refine XS.lloadN X0.here hx rfl (hb hby own_d5_17) rfl ?_
        show Steps p.tables e below (s₁.setTop (mkF m 18 #[.val (.long q1), .second, .val (.long q2), .second, .val (.long q3), .second] [(.long q1), (.long q2)])) _
        refine XS.lload X0.here hx rfl (hb hby own_d5_18) rfl ?_
        show Steps p.tables e below (s₁.setTop (mkF m 20 #[.val (.long q1), .second, .val (.long q2), .second, .val (.long q3), .second] [(.long q3), (.long q1), (.long q2)])) _
        refine XS.lsub X0.here hx rfl (hb hby own_d5_20) rfl ?_
        show Steps p.tables e below (s₁.setTop (mkF m 21 #[.val (.long q1), .second, .val (.long q2), .second, .val (.long q3), .second] [(.long (q1 - q3)), (.long q2)])) _
        refine XS.lcmp X0.here hx rfl (hb hby own_d5_21) rfl ?_
        exact kt
      by_cases hc4 : (0 : Int32) < (lcmpW q2 (q1 - q3))
      ·
        obtain ⟨fs, hr, hrun, hended, hW, hsame⟩ := X0.leave (v := some (.int (0 : Int32))) (fun h => by rw [Bd.returns] at h; cases h)
        refine ⟨_, _, k4 _ ?_, hrun, hended, _, _, rfl, ?_, ⟨_, rfl⟩, hW, hsame.mono (by decide) (by decide)⟩
        · show Steps p.tables e below (s₁.setTop (mkF m 22 #[.val (.long q1), .second, .val (.long q2), .second, .val (.long q3), .second] [(.int (lcmpW q2 (q1 - q3)))])) _
          refine XS.ifYes X0.here hx rfl (pc0 := 22) (pc' := 29) rfl (hb hby own_d5_22) rfl ((if0 _ _).trans (tlt hc4).2.2.1) (by decide) (by decide) ?_
          show Steps p.tables e below (s₁.setTop (mkF m 29 #[.val (.long q1), .second, .val (.long q2), .second, .val (.long q3), .second] [])) _
          refine XS.iconst X0.here hx rfl (hb hby own_d5_29) ?_
          show Steps p.tables e below (s₁.setTop (mkF m 30 #[.val (.long q1), .second, .val (.long q2), .second, .val (.long q3), .second] [(.int (0 : Int32))])) _
          exact retN X0 hx (t := .boolean) Bd.returns (by simp) (hb hby own_d5_30) hr
        · show own_Q5 Z q1 q2 q3 h0 n0 _ s₁.heap _
          rw [e0]
          exact ⟨(by rw [own_f5, if_neg hc1, if_neg hc3, if_pos hc4]), N0, rfl⟩
      ·
        obtain ⟨fs, hr, hrun, hended, hW, hsame⟩ := X0.leave (v := some (.int (1 : Int32))) (fun h => by rw [Bd.returns] at h; cases h)
        refine ⟨_, _, k4 _ ?_, hrun, hended, _, _, rfl, ?_, ⟨_, rfl⟩, hW, hsame.mono (by decide) (by decide)⟩
        · show Steps p.tables e below (s₁.setTop (mkF m 22 #[.val (.long q1), .second, .val (.long q2), .second, .val (.long q3), .second] [(.int (lcmpW q2 (q1 - q3)))])) _
          refine XS.ifNo X0.here hx rfl (hb hby own_d5_22) rfl ((if0 _ _).trans (flt hc4).2.2.1) ?_
          show Steps p.tables e below (s₁.setTop (mkF m 25 #[.val (.long q1), .second, .val (.long q2), .second, .val (.long q3), .second] [])) _
          refine XS.iconst X0.here hx rfl (hb hby own_d5_25) ?_
          show Steps p.tables e below (s₁.setTop (mkF m 26 #[.val (.long q1), .second, .val (.long q2), .second, .val (.long q3), .second] [(.int (1 : Int32))])) _
          refine XS.goto X0.here hx rfl (pc0 := 26) (pc' := 30) rfl (hb hby own_d5_26) (by decide) (by decide) ?_
          show Steps p.tables e below (s₁.setTop (mkF m 30 #[.val (.long q1), .second, .val (.long q2), .second, .val (.long q3), .second] [(.int (1 : Int32))])) _
          exact retN X0 hx (t := .boolean) Bd.returns (by simp) (hb hby own_d5_30) hr
        · show own_Q5 Z q1 q2 q3 h0 n0 _ s₁.heap _
          rw [e0]
          exact ⟨(by rw [own_f5, if_neg hc1, if_neg hc3, if_neg hc4]), N0, rfl⟩
-- body 6
theorem own_d6_0 : decode prog_38_method_4_code 0 = .ok (.aload_n 0, 1) := by decide +kernel
theorem own_d6_1 : decode prog_38_method_4_code 1 = .ok (.getfield 23, 3) := by decide +kernel
theorem own_d6_4 : decode prog_38_method_4_code 4 = .ok (.lreturn, 1) := by decide +kernel
theorem own_ef6 (m : MethodId) (x0 : Addr) : entryFrame m #[(.ref x0)] 1 = mkF m 0 #[.val (.ref x0)] [] := by first | (simp [entryFrame, mkF, argsToLocals, Value.category]; done) | rfl
def own_f6 (w_bytes_a1 : Int64) : Int64 := w_bytes_a1
def own_Q6 (Z : State) (a1 : Addr) (w_bytes_a1 : Int64) (h0 : Heap) (n0 : Nat) (v : Option Value) (h : Heap) (L : List Loc) : Prop := v = some (.long (own_f6 w_bytes_a1)) ∧ Fr n0 L ∧ h = h0
set_option maxRecDepth 65536 in
set_option maxHeartbeats 40000000 in
theorem own_rm6 (l : Launch) (Z : State) (a0 : Array Value) (hw : ∀ d ∈ tables_1, d.before a0 Z = true) (ws : List Jvm.Cond) (a1 : Addr) (w_bytes_a1 : Int64) (h0 : Heap) (n0 : Nat) (Z0 : n0 ≤ h0.size) (F_bytes_a1 : Fld Z h0 a1 "com/example/castd/castd/Room" "bytes" "J" (.long w_bytes_a1)) :
    MetFree l (⟨"com/example/castd/castd/Room", "bytes", "()J"⟩ : MethodName) (head1 (Jvm.Cond.code (⟨"com/example/castd/castd/Room", "bytes", "()J"⟩ : MethodName) prog_38_method_4_code 1 (some .long) :: ws) ({ frames := 0, cells := 0, slots := 0, locals := 0 } : Room)) (fun a U => a = #[(.ref a1)] ∧ Z.Warmed39 U.vm ∧ U.heap = h0) (fun _ _ _ _ _ => True) (fun _ U o U' => ∃ v L, o = .returned v ∧ own_Q6 Z a1 w_bytes_a1 h0 n0 v U'.heap L ∧ FrameEnd U o U' L ({ frames := 0, cells := 0, slots := 0, locals := 0 } : Room).cells ({ frames := 0, cells := 0, slots := 0, locals := 0 } : Room).slots) := by
  refine MetFree.of_bodySF (plainFor_of_name own_pn0) hisR ?_
  intro p e s m args below meth c s₁ Bd hml0 hP hK
  obtain ⟨rfl, hZ, hh⟩ := hP
  have hx := Bd.exec
  have hby := Bd.bytes
  have hml : c.maxLocals = 1 := hml0
  have hown : s.vm.findClass "com/example/castd/castd/Room" = some m.cls := findClass_of_methodNamed Bd.named
  have hnm := (name_of_methodNamed Bd.named Bd.method).1
  have X0 : Stand p l e ({ frames := 0, cells := 0, slots := 0, locals := 0 } : Room) s m #[(.ref a1)] below meth c s₁ [] 0 0 := Stand.of_body Bd
  have e0 : s₁.heap = h0 := by rw [← hh, Bd.state]; rfl
  have N0 := Fr.nil n0
  have pre0 : ∀ t, Steps p.tables e below (s₁.setTop (mkF m 0 #[.val (.ref a1)] [])) t → Steps p.tables e below (s₁.setTop (entryFrame m #[(.ref a1)] 1)) t := fun t k => castTop (own_ef6 m a1) k
  obtain ⟨T1, X1, e1, st1⟩ := getF X0 hx hZ hown (host := "") (Or.inl (hw _ (List.mem_of_getElem? (i := 17) rfl))) Via.refl e0 F_bytes_a1 (g := (mkF m 1 #[.val (.ref a1)] [(.ref a1)])) rfl rfl (hb hby own_d6_1)
  obtain ⟨fs, hr, hrun, hended, hW, hsame⟩ := X1.leave (v := some (.long w_bytes_a1)) (fun h => by rw [Bd.returns] at h; cases h)
  refine ⟨_, _, pre0 _ ?_, hrun, hended, _, _, rfl, ?_, ⟨_, rfl⟩, hW, hsame.mono (by decide) (by decide)⟩
  · show Steps p.tables e below (s₁.setTop (mkF m 0 #[.val (.ref a1)] [])) _
    refine XS.aloadN X0.here hx rfl (hb hby own_d6_0) rfl rfl ?_
    show Steps p.tables e below (s₁.setTop (mkF m 1 #[.val (.ref a1)] [(.ref a1)])) _
    refine st1 _ ?_
    show Steps p.tables e below (T1.setTop (mkF m 4 #[.val (.ref a1)] [(.long w_bytes_a1)])) _
    jvm_step X1.here [X1.here.top, hx, (hb hby own_d6_4), X1.method', Bd.returns, narrow]
    first | (intro acts; rw [hr _ acts rfl rfl rfl]) | rw [hr _ _ rfl rfl rfl]
    exact Steps.refl _
  · show own_Q6 Z a1 w_bytes_a1 h0 n0 _ T1.heap _
    rw [e1]
    exact ⟨(by rw [own_f6]), N0, rfl⟩
-- body 7
theorem own_d7_0 : decode prog_38_method_5_code 0 = .ok (.aload_n 0, 1) := by decide +kernel
theorem own_d7_1 : decode prog_38_method_5_code 1 = .ok (.getfield 7, 3) := by decide +kernel
theorem own_d7_4 : decode prog_38_method_5_code 4 = .ok (.lreturn, 1) := by decide +kernel
theorem own_ef7 (m : MethodId) (x0 : Addr) : entryFrame m #[(.ref x0)] 1 = mkF m 0 #[.val (.ref x0)] [] := by first | (simp [entryFrame, mkF, argsToLocals, Value.category]; done) | rfl
def own_f7 (w_maxBytes_a1 : Int64) : Int64 := w_maxBytes_a1
def own_Q7 (Z : State) (a1 : Addr) (w_maxBytes_a1 : Int64) (h0 : Heap) (n0 : Nat) (v : Option Value) (h : Heap) (L : List Loc) : Prop := v = some (.long (own_f7 w_maxBytes_a1)) ∧ Fr n0 L ∧ h = h0
set_option maxRecDepth 65536 in
set_option maxHeartbeats 40000000 in
theorem own_rm7 (l : Launch) (Z : State) (a0 : Array Value) (hw : ∀ d ∈ tables_1, d.before a0 Z = true) (ws : List Jvm.Cond) (a1 : Addr) (w_maxBytes_a1 : Int64) (h0 : Heap) (n0 : Nat) (Z0 : n0 ≤ h0.size) (F_maxBytes_a1 : Fld Z h0 a1 "com/example/castd/castd/Room" "maxBytes" "J" (.long w_maxBytes_a1)) :
    MetFree l (⟨"com/example/castd/castd/Room", "maxBytes", "()J"⟩ : MethodName) (head1 (Jvm.Cond.code (⟨"com/example/castd/castd/Room", "maxBytes", "()J"⟩ : MethodName) prog_38_method_5_code 1 (some .long) :: ws) ({ frames := 0, cells := 0, slots := 0, locals := 0 } : Room)) (fun a U => a = #[(.ref a1)] ∧ Z.Warmed39 U.vm ∧ U.heap = h0) (fun _ _ _ _ _ => True) (fun _ U o U' => ∃ v L, o = .returned v ∧ own_Q7 Z a1 w_maxBytes_a1 h0 n0 v U'.heap L ∧ FrameEnd U o U' L ({ frames := 0, cells := 0, slots := 0, locals := 0 } : Room).cells ({ frames := 0, cells := 0, slots := 0, locals := 0 } : Room).slots) := by
  refine MetFree.of_bodySF (plainFor_of_name own_pn0) hisR ?_
  intro p e s m args below meth c s₁ Bd hml0 hP hK
  obtain ⟨rfl, hZ, hh⟩ := hP
  have hx := Bd.exec
  have hby := Bd.bytes
  have hml : c.maxLocals = 1 := hml0
  have hown : s.vm.findClass "com/example/castd/castd/Room" = some m.cls := findClass_of_methodNamed Bd.named
  have hnm := (name_of_methodNamed Bd.named Bd.method).1
  have X0 : Stand p l e ({ frames := 0, cells := 0, slots := 0, locals := 0 } : Room) s m #[(.ref a1)] below meth c s₁ [] 0 0 := Stand.of_body Bd
  have e0 : s₁.heap = h0 := by rw [← hh, Bd.state]; rfl
  have N0 := Fr.nil n0
  have pre0 : ∀ t, Steps p.tables e below (s₁.setTop (mkF m 0 #[.val (.ref a1)] [])) t → Steps p.tables e below (s₁.setTop (entryFrame m #[(.ref a1)] 1)) t := fun t k => castTop (own_ef7 m a1) k
  obtain ⟨T1, X1, e1, st1⟩ := getF X0 hx hZ hown (host := "") (Or.inl (hw _ (List.mem_of_getElem? (i := 10) rfl))) Via.refl e0 F_maxBytes_a1 (g := (mkF m 1 #[.val (.ref a1)] [(.ref a1)])) rfl rfl (hb hby own_d7_1)
  obtain ⟨fs, hr, hrun, hended, hW, hsame⟩ := X1.leave (v := some (.long w_maxBytes_a1)) (fun h => by rw [Bd.returns] at h; cases h)
  refine ⟨_, _, pre0 _ ?_, hrun, hended, _, _, rfl, ?_, ⟨_, rfl⟩, hW, hsame.mono (by decide) (by decide)⟩
  · show Steps p.tables e below (s₁.setTop (mkF m 0 #[.val (.ref a1)] [])) _
    refine XS.aloadN X0.here hx rfl (hb hby own_d7_0) rfl rfl ?_
    show Steps p.tables e below (s₁.setTop (mkF m 1 #[.val (.ref a1)] [(.ref a1)])) _
    refine st1 _ ?_
    show Steps p.tables e below (T1.setTop (mkF m 4 #[.val (.ref a1)] [(.long w_maxBytes_a1)])) _
    jvm_step X1.here [X1.here.top, hx, (hb hby own_d7_4), X1.method', Bd.returns, narrow]
    first | (intro acts; rw [hr _ acts rfl rfl rfl]) | rw [hr _ _ rfl rfl rfl]
    exact Steps.refl _
  · show own_Q7 Z a1 w_maxBytes_a1 h0 n0 _ T1.heap _
    rw [e1]
    exact ⟨(by rw [own_f7]), N0, rfl⟩
-- body 0
theorem own_ef0 (m : MethodId) (x0 : Int64) (x1 : Int64) (x2 : Int64) (x3 : Int32) : entryFrame m #[(.long x0), (.long x1), (.long x2), (.int x3)] maxLocals = mkF m 0 #[.val (.long x0), .second, .val (.long x1), .second, .val (.long x2), .second, .val (.int x3), .unset, .unset, .unset, .unset, .unset, .unset, .unset, .unset, .unset, .unset] [] := by first | (simp [entryFrame, mkF, argsToLocals, Value.category, maxLocals]; done) | rfl
def own_f0 (q1 : Int64) (q2 : Int64) (q3 : Int64) (p4 : Int32) : Int32 := if (p4 &&& (3 : Int32)) = (1 : Int32) then (if (own_f4 ((q1 &&& (9223372036854775807 : Int64)) - (q2 &&& (9223372036854775807 : Int64))) (q1 &&& (9223372036854775807 : Int64)) ((0 : Int64) + (q2 &&& (9223372036854775807 : Int64)))) = (own_f5 (q1 &&& (9223372036854775807 : Int64)) (q2 &&& (9223372036854775807 : Int64)) ((q1 &&& (9223372036854775807 : Int64)) - (q2 &&& (9223372036854775807 : Int64)))) then (if (lcmpW ((0 : Int64) + (q2 &&& (9223372036854775807 : Int64))) (q2 &&& (9223372036854775807 : Int64))) = (0 : Int32) then (if (lcmpW (q1 &&& (9223372036854775807 : Int64)) (q1 &&& (9223372036854775807 : Int64))) = (0 : Int32) then (1 : Int32)
          else (0 : Int32))
        else (0 : Int32))
      else (0 : Int32))
    else if (p4 &&& (3 : Int32)) = (2 : Int32) then (if (own_f4 (((q1 &&& (9223372036854775807 : Int64)) - (q2 &&& (9223372036854775807 : Int64))) + (1 : Int64)) (q1 &&& (9223372036854775807 : Int64)) ((0 : Int64) + (q2 &&& (9223372036854775807 : Int64)))) = (own_f5 (q1 &&& (9223372036854775807 : Int64)) (q2 &&& (9223372036854775807 : Int64)) (((q1 &&& (9223372036854775807 : Int64)) - (q2 &&& (9223372036854775807 : Int64))) + (1 : Int64))) then (if (lcmpW ((0 : Int64) + (q2 &&& (9223372036854775807 : Int64))) (q2 &&& (9223372036854775807 : Int64))) = (0 : Int32) then (if (lcmpW (q1 &&& (9223372036854775807 : Int64)) (q1 &&& (9223372036854775807 : Int64))) = (0 : Int32) then (1 : Int32)
            else (0 : Int32))
          else (0 : Int32))
        else (0 : Int32))
      else if (p4 &&& (3 : Int32)) = (3 : Int32) then (if (own_f4 (((q1 &&& (9223372036854775807 : Int64)) - (q2 &&& (9223372036854775807 : Int64))) - (1 : Int64)) (q1 &&& (9223372036854775807 : Int64)) ((0 : Int64) + (q2 &&& (9223372036854775807 : Int64)))) = (own_f5 (q1 &&& (9223372036854775807 : Int64)) (q2 &&& (9223372036854775807 : Int64)) (((q1 &&& (9223372036854775807 : Int64)) - (q2 &&& (9223372036854775807 : Int64))) - (1 : Int64))) then (if (lcmpW ((0 : Int64) + (q2 &&& (9223372036854775807 : Int64))) (q2 &&& (9223372036854775807 : Int64))) = (0 : Int32) then (if (lcmpW (q1 &&& (9223372036854775807 : Int64)) (q1 &&& (9223372036854775807 : Int64))) = (0 : Int32) then (1 : Int32)
              else (0 : Int32))
            else (0 : Int32))
          else (0 : Int32))
        else if (own_f4 q3 (q1 &&& (9223372036854775807 : Int64)) ((0 : Int64) + (q2 &&& (9223372036854775807 : Int64)))) = (own_f5 (q1 &&& (9223372036854775807 : Int64)) (q2 &&& (9223372036854775807 : Int64)) q3) then (if (lcmpW ((0 : Int64) + (q2 &&& (9223372036854775807 : Int64))) (q2 &&& (9223372036854775807 : Int64))) = (0 : Int32) then (if (lcmpW (q1 &&& (9223372036854775807 : Int64)) (q1 &&& (9223372036854775807 : Int64))) = (0 : Int32) then (1 : Int32)
              else (0 : Int32))
            else (0 : Int32))
          else (0 : Int32)
def own_Q0 (Z : State) (q1 : Int64) (q2 : Int64) (q3 : Int64) (p4 : Int32) (h0 : Heap) (n0 : Nat) (v : Option Value) (h : Heap) (L : List Loc) : Prop := v = some (.int (own_f0 q1 q2 q3 p4)) ∧ Fr n0 L
set_option maxRecDepth 65536 in
set_option maxHeartbeats 40000000 in
theorem own_rm0 (l : Launch) (Z : State) (a0 : Array Value) (hw : ∀ d ∈ tables_1, d.before a0 Z = true) (ws : List Jvm.Cond) (q1 : Int64) (q2 : Int64) (q3 : Int64) (p4 : Int32) (h0 : Heap) (n0 : Nat) (Z0 : n0 ≤ h0.size) :
    MetFree l x (head1 (Jvm.Cond.code x code maxLocals ret :: ws) room_1) (fun a U => a = #[(.long q1), (.long q2), (.long q3), (.int p4)] ∧ Z.Warmed39 U.vm ∧ U.heap = h0) (fun _ _ _ _ _ => True) (fun _ U o U' => ∃ v L, o = .returned v ∧ own_Q0 Z q1 q2 q3 p4 h0 n0 v U'.heap L ∧ FrameEnd U o U' L room_1.cells room_1.slots) := by
  refine MetFree.of_bodySF (plainFor_of_name own_pn26) hisR ?_
  intro p e s m args below meth c s₁ Bd hml0 hP hK
  obtain ⟨rfl, hZ, hh⟩ := hP
  have hx := Bd.exec
  have hby := Bd.bytes
  have hml : c.maxLocals = 17 := hml0
  have hown : s.vm.findClass "com/example/castd/castd/RoomFitsPinLaw" = some m.cls := findClass_of_methodNamed Bd.named
  have hnm := (name_of_methodNamed Bd.named Bd.method).1
  have X0 : Stand p l e room_1 s m #[(.long q1), (.long q2), (.long q3), (.int p4)] below meth c s₁ [] 0 0 := Stand.of_body Bd
  have e0 : s₁.heap = h0 := by rw [← hh, Bd.state]; rfl
  have N0 := Fr.nil n0
  have pre0 : ∀ t, Steps p.tables e below (s₁.setTop (mkF m 0 #[.val (.long q1), .second, .val (.long q2), .second, .val (.long q3), .second, .val (.int p4), .unset, .unset, .unset, .unset, .unset, .unset, .unset, .unset, .unset, .unset] [])) t → Steps p.tables e below (s₁.setTop (entryFrame m #[(.long q1), (.long q2), (.long q3), (.int p4)] maxLocals)) t := fun t k => castTop (own_ef0 m q1 q2 q3 p4) k
  have k1 : ∀ t, Steps p.tables e below (s₁.setTop (mkF m 27 #[.val (.long q1), .second, .val (.long q2), .second, .val (.long q3), .second, .val (.int p4), .val (.long (q1 &&& (9223372036854775807 : Int64))), .second, .val (.long (q2 &&& (9223372036854775807 : Int64))), .second, .val (.int (p4 &&& (3 : Int32))), .val (.long q3), .second, .unset, .unset, .unset] [(.int (1 : Int32)), (.int (p4 &&& (3 : Int32)))])) t → Steps p.tables e below (s₁.setTop (entryFrame m #[(.long q1), (.long q2), (.long q3), (.int p4)] maxLocals)) t := by
    intro t kt
    refine pre0 t ?_
    show Steps p.tables e below (s₁.setTop (mkF m 0 #[.val (.long q1), .second, .val (.long q2), .second, .val (.long q3), .second, .val (.int p4), .unset, .unset, .unset, .unset, .unset, .unset, .unset, .unset, .unset, .unset] [])) _
    refine XS.lloadN X0.here hx rfl (hb hby at_0) rfl ?_
    show Steps p.tables e below (s₁.setTop (mkF m 1 #[.val (.long q1), .second, .val (.long q2), .second, .val (.long q3), .second, .val (.int p4), .unset, .unset, .unset, .unset, .unset, .unset, .unset, .unset, .unset, .unset] [(.long q1)])) _
    refine X0.ldc2Long hx hown (mvT hZ (hw _ (List.mem_of_getElem? (i := 0) rfl))) (g := (mkF m 1 #[.val (.long q1), .second, .val (.long q2), .second, .val (.long q3), .second, .val (.int p4), .unset, .unset, .unset, .unset, .unset, .unset, .unset, .unset, .unset, .unset] [(.long q1)])) rfl (hb hby at_1) _ ?_
    show Steps p.tables e below (s₁.setTop (mkF m 4 #[.val (.long q1), .second, .val (.long q2), .second, .val (.long q3), .second, .val (.int p4), .unset, .unset, .unset, .unset, .unset, .unset, .unset, .unset, .unset, .unset] [(.long (9223372036854775807 : Int64)), (.long q1)])) _
    refine XS.land X0.here hx rfl (hb hby at_4) rfl ?_
    show Steps p.tables e below (s₁.setTop (mkF m 5 #[.val (.long q1), .second, .val (.long q2), .second, .val (.long q3), .second, .val (.int p4), .unset, .unset, .unset, .unset, .unset, .unset, .unset, .unset, .unset, .unset] [(.long (q1 &&& (9223372036854775807 : Int64)))])) _
    refine XS.lstore X0.here hx rfl (hb hby at_5) rfl (l' := #[.val (.long q1), .second, .val (.long q2), .second, .val (.long q3), .second, .val (.int p4), .val (.long (q1 &&& (9223372036854775807 : Int64))), .second, .unset, .unset, .unset, .unset, .unset, .unset, .unset, .unset]) rfl ?_
    show Steps p.tables e below (s₁.setTop (mkF m 7 #[.val (.long q1), .second, .val (.long q2), .second, .val (.long q3), .second, .val (.int p4), .val (.long (q1 &&& (9223372036854775807 : Int64))), .second, .unset, .unset, .unset, .unset, .unset, .unset, .unset, .unset] [])) _
    refine XS.lloadN X0.here hx rfl (hb hby at_7) rfl ?_
    show Steps p.tables e below (s₁.setTop (mkF m 8 #[.val (.long q1), .second, .val (.long q2), .second, .val (.long q3), .second, .val (.int p4), .val (.long (q1 &&& (9223372036854775807 : Int64))), .second, .unset, .unset, .unset, .unset, .unset, .unset, .unset, .unset] [(.long q2)])) _
    refine X0.ldc2Long hx hown (mvT hZ (hw _ (List.mem_of_getElem? (i := 0) rfl))) (g := (mkF m 8 #[.val (.long q1), .second, .val (.long q2), .second, .val (.long q3), .second, .val (.int p4), .val (.long (q1 &&& (9223372036854775807 : Int64))), .second, .unset, .unset, .unset, .unset, .unset, .unset, .unset, .unset] [(.long q2)])) rfl (hb hby at_8) _ ?_
    show Steps p.tables e below (s₁.setTop (mkF m 11 #[.val (.long q1), .second, .val (.long q2), .second, .val (.long q3), .second, .val (.int p4), .val (.long (q1 &&& (9223372036854775807 : Int64))), .second, .unset, .unset, .unset, .unset, .unset, .unset, .unset, .unset] [(.long (9223372036854775807 : Int64)), (.long q2)])) _
    refine XS.land X0.here hx rfl (hb hby at_11) rfl ?_
    show Steps p.tables e below (s₁.setTop (mkF m 12 #[.val (.long q1), .second, .val (.long q2), .second, .val (.long q3), .second, .val (.int p4), .val (.long (q1 &&& (9223372036854775807 : Int64))), .second, .unset, .unset, .unset, .unset, .unset, .unset, .unset, .unset] [(.long (q2 &&& (9223372036854775807 : Int64)))])) _
    refine XS.lstore X0.here hx rfl (hb hby at_12) rfl (l' := #[.val (.long q1), .second, .val (.long q2), .second, .val (.long q3), .second, .val (.int p4), .val (.long (q1 &&& (9223372036854775807 : Int64))), .second, .val (.long (q2 &&& (9223372036854775807 : Int64))), .second, .unset, .unset, .unset, .unset, .unset, .unset]) rfl ?_
    show Steps p.tables e below (s₁.setTop (mkF m 14 #[.val (.long q1), .second, .val (.long q2), .second, .val (.long q3), .second, .val (.int p4), .val (.long (q1 &&& (9223372036854775807 : Int64))), .second, .val (.long (q2 &&& (9223372036854775807 : Int64))), .second, .unset, .unset, .unset, .unset, .unset, .unset] [])) _
    refine XS.iload X0.here hx rfl (hb hby at_14) rfl ?_
    show Steps p.tables e below (s₁.setTop (mkF m 16 #[.val (.long q1), .second, .val (.long q2), .second, .val (.long q3), .second, .val (.int p4), .val (.long (q1 &&& (9223372036854775807 : Int64))), .second, .val (.long (q2 &&& (9223372036854775807 : Int64))), .second, .unset, .unset, .unset, .unset, .unset, .unset] [(.int p4)])) _
    refine XS.iconst X0.here hx rfl (hb hby at_16) ?_
    show Steps p.tables e below (s₁.setTop (mkF m 17 #[.val (.long q1), .second, .val (.long q2), .second, .val (.long q3), .second, .val (.int p4), .val (.long (q1 &&& (9223372036854775807 : Int64))), .second, .val (.long (q2 &&& (9223372036854775807 : Int64))), .second, .unset, .unset, .unset, .unset, .unset, .unset] [(.int (3 : Int32)), (.int p4)])) _
    refine XS.iand X0.here hx rfl (hb hby at_17) rfl ?_
    show Steps p.tables e below (s₁.setTop (mkF m 18 #[.val (.long q1), .second, .val (.long q2), .second, .val (.long q3), .second, .val (.int p4), .val (.long (q1 &&& (9223372036854775807 : Int64))), .second, .val (.long (q2 &&& (9223372036854775807 : Int64))), .second, .unset, .unset, .unset, .unset, .unset, .unset] [(.int (p4 &&& (3 : Int32)))])) _
    refine XS.istore X0.here hx rfl (hb hby at_18) rfl (l' := #[.val (.long q1), .second, .val (.long q2), .second, .val (.long q3), .second, .val (.int p4), .val (.long (q1 &&& (9223372036854775807 : Int64))), .second, .val (.long (q2 &&& (9223372036854775807 : Int64))), .second, .val (.int (p4 &&& (3 : Int32))), .unset, .unset, .unset, .unset, .unset]) rfl ?_
    show Steps p.tables e below (s₁.setTop (mkF m 20 #[.val (.long q1), .second, .val (.long q2), .second, .val (.long q3), .second, .val (.int p4), .val (.long (q1 &&& (9223372036854775807 : Int64))), .second, .val (.long (q2 &&& (9223372036854775807 : Int64))), .second, .val (.int (p4 &&& (3 : Int32))), .unset, .unset, .unset, .unset, .unset] [])) _
    refine XS.lload X0.here hx rfl (hb hby at_20) rfl ?_
    show Steps p.tables e below (s₁.setTop (mkF m 22 #[.val (.long q1), .second, .val (.long q2), .second, .val (.long q3), .second, .val (.int p4), .val (.long (q1 &&& (9223372036854775807 : Int64))), .second, .val (.long (q2 &&& (9223372036854775807 : Int64))), .second, .val (.int (p4 &&& (3 : Int32))), .unset, .unset, .unset, .unset, .unset] [(.long q3)])) _
    refine XS.lstore X0.here hx rfl (hb hby at_22) rfl (l' := #[.val (.long q1), .second, .val (.long q2), .second, .val (.long q3), .second, .val (.int p4), .val (.long (q1 &&& (9223372036854775807 : Int64))), .second, .val (.long (q2 &&& (9223372036854775807 : Int64))), .second, .val (.int (p4 &&& (3 : Int32))), .val (.long q3), .second, .unset, .unset, .unset]) rfl ?_
    show Steps p.tables e below (s₁.setTop (mkF m 24 #[.val (.long q1), .second, .val (.long q2), .second, .val (.long q3), .second, .val (.int p4), .val (.long (q1 &&& (9223372036854775807 : Int64))), .second, .val (.long (q2 &&& (9223372036854775807 : Int64))), .second, .val (.int (p4 &&& (3 : Int32))), .val (.long q3), .second, .unset, .unset, .unset] [])) _
    refine XS.iload X0.here hx rfl (hb hby at_24) rfl ?_
    show Steps p.tables e below (s₁.setTop (mkF m 26 #[.val (.long q1), .second, .val (.long q2), .second, .val (.long q3), .second, .val (.int p4), .val (.long (q1 &&& (9223372036854775807 : Int64))), .second, .val (.long (q2 &&& (9223372036854775807 : Int64))), .second, .val (.int (p4 &&& (3 : Int32))), .val (.long q3), .second, .unset, .unset, .unset] [(.int (p4 &&& (3 : Int32)))])) _
    refine XS.iconst X0.here hx rfl (hb hby at_26) ?_
    exact kt
  by_cases hc1 : (p4 &&& (3 : Int32)) = (1 : Int32)
  ·
    obtain ⟨T2, h2, X2, e2, E2, A2, D2, -, st2⟩ := newO X0 hx hZ hown (hw _ (List.mem_of_getElem? (i := 1) rfl)) (hw _ (List.mem_of_getElem? (i := 2) rfl)) (hw _ (List.mem_of_getElem? (i := 3) rfl)) e0 (g := (mkF m 73 #[.val (.long q1), .second, .val (.long q2), .second, .val (.long q3), .second, .val (.int p4), .val (.long (q1 &&& (9223372036854775807 : Int64))), .second, .val (.long (q2 &&& (9223372036854775807 : Int64))), .second, .val (.int (p4 &&& (3 : Int32))), .val (.long ((q1 &&& (9223372036854775807 : Int64)) - (q2 &&& (9223372036854775807 : Int64)))), .second, .unset, .unset, .unset] [])) rfl (hb hby at_73) (by decide) (by decide)
    obtain ⟨b2, g2⟩ : ∃ z, z = h0.size := ⟨_, rfl⟩
    rw [← g2] at A2 D2 st2
    have g_b2 : n0 ≤ b2 := Nat.le_trans Z0 (Nat.le_of_eq g2.symm)
    have Z3 := Nat.le_trans Z0 E2.1
    have F_maxBytes_b2 : Fld Z h2 b2 "com/example/castd/castd/Room" "maxBytes" "J" (.long (0 : Int64)) := D2 (Or.inr (hw _ (List.mem_of_getElem? (i := 11) rfl))) (ty := .long) (by decide)
    have F_bytes_b2 : Fld Z h2 b2 "com/example/castd/castd/Room" "bytes" "J" (.long (0 : Int64)) := D2 (Or.inl (hw _ (List.mem_of_getElem? (i := 18) rfl))) (ty := .long) (by decide)
    obtain ⟨v4, _, ⟨T4, L4, k4, n4⟩, -, X4, ⟨Lc4, hQ4, l4, y4, z4⟩, st4⟩ := X2.specialBack hx (y := (⟨"com/example/castd/castd/Room", "<init>", "(J)V"⟩ : MethodName)) rfl hown (mvT hZ (hw _ (List.mem_of_getElem? (i := 4) rfl))) (mvT hZ (hw _ (List.mem_of_getElem? (i := 5) rfl))) (mvT hZ (hw _ (List.mem_of_getElem? (i := 6) rfl))) (by decide) (backOf (W := 1) (own_rm1 l Z a0 hw [] b2 (q1 &&& (9223372036854775807 : Int64)) (0 : Int64) (0 : Int64) h2 n0 Z3 A2 F_maxBytes_b2 g_b2 F_bytes_b2) hZ (hw _ (List.mem_of_getElem? (i := 6) rfl)) (hw _ (List.mem_of_getElem? (i := 3) rfl)) (by decide) (by decide)) (g := (mkF m 79 #[.val (.long q1), .second, .val (.long q2), .second, .val (.long q3), .second, .val (.int p4), .val (.long (q1 &&& (9223372036854775807 : Int64))), .second, .val (.long (q2 &&& (9223372036854775807 : Int64))), .second, .val (.int (p4 &&& (3 : Int32))), .val (.long ((q1 &&& (9223372036854775807 : Int64)) - (q2 &&& (9223372036854775807 : Int64)))), .second, .unset, .unset, .unset] [(.long (q1 &&& (9223372036854775807 : Int64))), (.ref b2), (.ref b2)])) rfl (by rw [hml]; rfl) (Steps.refl _) (a := b2) (argsL := [(.long (q1 &&& (9223372036854775807 : Int64)))]) (rest := [(.ref b2)]) (lenOf own_pd63 rfl) rfl (by show 2 * 0 + _ ≤ _; exact Nat.le_of_eq rfl) (hb hby at_79) (fun _ _ => ⟨rfl, e2, (by decide : 1 + 0 ≤ _), (by decide : 2 + 0 ≤ _)⟩)
    dsimp only [Pt.U, Pt.locs, Pt.cells, Pt.slots] at X4 l4 y4 z4 st4 hQ4
    subst l4 y4 z4
    obtain ⟨rfl, N4q, K4, Q4_0, Q4_1, Q4_2⟩ := hQ4
    have f5 := A2.keep K4
    have Z8 := Nat.le_trans Z3 K4.1
    have N9 := Fr.app N0 N4q
    obtain ⟨cq10, kq10, q10a, q10b, q10c⟩ := isOf hZ rfl Q4_0
    obtain ⟨v10, _, ⟨T10, L10, k10, n10⟩, -, X10, ⟨Lc10, hQ10, l10, y10, z10⟩, st10⟩ := X4.virtualBack hx (y := (⟨"com/example/castd/castd/Room", "add", "(J)V"⟩ : MethodName)) (z := (⟨"com/example/castd/castd/Room", "add", "(J)V"⟩ : MethodName)) hown (mvT hZ (hw _ (List.mem_of_getElem? (i := 12) rfl))) (mvT hZ (hw _ (List.mem_of_getElem? (i := 13) rfl))) (notFace_of_selects (args := #[]) (mvT hZ (hw _ (List.mem_of_getElem? (i := 15) rfl)))) (mvT hZ (hw _ (List.mem_of_getElem? (i := 15) rfl))) (mvT hZ (hw _ (List.mem_of_getElem? (i := 14) rfl))) (by decide) (backOf (W := 0) (own_rm3 l Z a0 hw [] b2 (q2 &&& (9223372036854775807 : Int64)) (0 : Int64) (q1 &&& (9223372036854775807 : Int64)) T4.heap n0 Z8 Q4_2 Q4_0 g_b2 Q4_1) hZ (hw _ (List.mem_of_getElem? (i := 16) rfl)) (hw _ (List.mem_of_getElem? (i := 3) rfl)) (by decide) (by decide)) q10a q10c (g := (mkF m 88 #[.val (.long q1), .second, .val (.long q2), .second, .val (.long q3), .second, .val (.int p4), .val (.long (q1 &&& (9223372036854775807 : Int64))), .second, .val (.long (q2 &&& (9223372036854775807 : Int64))), .second, .val (.int (p4 &&& (3 : Int32))), .val (.long ((q1 &&& (9223372036854775807 : Int64)) - (q2 &&& (9223372036854775807 : Int64)))), .second, .val (.ref b2), .unset, .unset] [(.long (q2 &&& (9223372036854775807 : Int64))), (.ref b2)])) rfl (by rw [hml]; rfl) (Steps.refl _) (argsL := [(.long (q2 &&& (9223372036854775807 : Int64)))]) (rest := []) (lenOf own_pd63 rfl) rfl (by show 2 * 0 + _ ≤ _; exact Nat.le_of_eq rfl) (hb hby at_88) (fun _ _ => ⟨rfl, rfl, (by decide : 1 + 0 ≤ _), (by decide : 2 + 0 ≤ _)⟩)
    dsimp only [Pt.U, Pt.locs, Pt.cells, Pt.slots] at X10 l10 y10 z10 st10 hQ10
    subst l10 y10 z10
    obtain ⟨rfl, N10q, K10, Q10_0, Q10_1, Q10_2⟩ := hQ10
    have f11 := Q4_0.keep K10
    have Z14 := Nat.le_trans Z8 K10.1
    have N15 := Fr.app N9 N10q
    obtain ⟨cq16, kq16, q16a, q16b, q16c⟩ := isOf hZ rfl Q10_0
    obtain ⟨v16, _, ⟨T16, L16, k16, n16⟩, -, X16, ⟨Lc16, hQ16, l16, y16, z16⟩, st16⟩ := X10.virtualBack hx (y := (⟨"com/example/castd/castd/Room", "fits", "(J)Z"⟩ : MethodName)) (z := (⟨"com/example/castd/castd/Room", "fits", "(J)Z"⟩ : MethodName)) hown (mvT hZ (hw _ (List.mem_of_getElem? (i := 19) rfl))) (mvT hZ (hw _ (List.mem_of_getElem? (i := 20) rfl))) (notFace_of_selects (args := #[]) (mvT hZ (hw _ (List.mem_of_getElem? (i := 22) rfl)))) (mvT hZ (hw _ (List.mem_of_getElem? (i := 22) rfl))) (mvT hZ (hw _ (List.mem_of_getElem? (i := 21) rfl))) (by decide) (backOf (W := 0) (own_rm4 l Z a0 hw [] b2 ((q1 &&& (9223372036854775807 : Int64)) - (q2 &&& (9223372036854775807 : Int64))) (q1 &&& (9223372036854775807 : Int64)) ((0 : Int64) + (q2 &&& (9223372036854775807 : Int64))) T10.heap n0 Z14 Q10_2 Q10_1) hZ (hw _ (List.mem_of_getElem? (i := 23) rfl)) (hw _ (List.mem_of_getElem? (i := 3) rfl)) (by decide) (by decide)) q16a q16c (g := (mkF m 95 #[.val (.long q1), .second, .val (.long q2), .second, .val (.long q3), .second, .val (.int p4), .val (.long (q1 &&& (9223372036854775807 : Int64))), .second, .val (.long (q2 &&& (9223372036854775807 : Int64))), .second, .val (.int (p4 &&& (3 : Int32))), .val (.long ((q1 &&& (9223372036854775807 : Int64)) - (q2 &&& (9223372036854775807 : Int64)))), .second, .val (.ref b2), .unset, .unset] [(.long ((q1 &&& (9223372036854775807 : Int64)) - (q2 &&& (9223372036854775807 : Int64)))), (.ref b2)])) rfl (by rw [hml]; rfl) (Steps.refl _) (argsL := [(.long ((q1 &&& (9223372036854775807 : Int64)) - (q2 &&& (9223372036854775807 : Int64))))]) (rest := []) (lenOf own_pd64 rfl) rfl (by show 2 * 0 + _ ≤ _; exact Nat.le_of_eq rfl) (hb hby at_95) (fun _ _ => ⟨rfl, rfl, (by decide : 1 + 0 ≤ _), (by decide : 2 + 0 ≤ _)⟩)
    dsimp only [Pt.U, Pt.locs, Pt.cells, Pt.slots] at X16 l16 y16 z16 st16 hQ16
    subst l16 y16 z16
    obtain ⟨rfl, N16q, e16⟩ := hQ16
    have N17 := Fr.app N15 N16q
    obtain ⟨v18, _, ⟨T18, L18, k18, n18⟩, -, X18, ⟨Lc18, hQ18, l18, y18, z18⟩, st18⟩ := Jvm.LawKit.callS X16 hx (y := (⟨"com/example/castd/castd/RoomFitsPinLaw", "expectedFits", "(JJJ)Z"⟩ : MethodName)) hown (mvT hZ (hw _ (List.mem_of_getElem? (i := 24) rfl))) (mvT hZ (hw _ (List.mem_of_getElem? (i := 25) rfl))) (mvT hZ (hw _ (List.mem_of_getElem? (i := 26) rfl))) (mvT hZ (hw _ (List.mem_of_getElem? (i := 27) rfl))) (by decide) (backOf (W := 0) (own_rm5 l Z a0 hw [] (q1 &&& (9223372036854775807 : Int64)) (q2 &&& (9223372036854775807 : Int64)) ((q1 &&& (9223372036854775807 : Int64)) - (q2 &&& (9223372036854775807 : Int64))) T10.heap n0 Z14) hZ (hw _ (List.mem_of_getElem? (i := 27) rfl)) (hw _ (List.mem_of_getElem? (i := 26) rfl)) (by decide) (by decide)) (g := (mkF m 106 #[.val (.long q1), .second, .val (.long q2), .second, .val (.long q3), .second, .val (.int p4), .val (.long (q1 &&& (9223372036854775807 : Int64))), .second, .val (.long (q2 &&& (9223372036854775807 : Int64))), .second, .val (.int (p4 &&& (3 : Int32))), .val (.long ((q1 &&& (9223372036854775807 : Int64)) - (q2 &&& (9223372036854775807 : Int64)))), .second, .val (.ref b2), .val (.int (own_f4 ((q1 &&& (9223372036854775807 : Int64)) - (q2 &&& (9223372036854775807 : Int64))) (q1 &&& (9223372036854775807 : Int64)) ((0 : Int64) + (q2 &&& (9223372036854775807 : Int64))))), .unset] [(.long ((q1 &&& (9223372036854775807 : Int64)) - (q2 &&& (9223372036854775807 : Int64)))), (.long (q2 &&& (9223372036854775807 : Int64))), (.long (q1 &&& (9223372036854775807 : Int64)))])) rfl (by rw [hml]; rfl) (argsL := [(.long (q1 &&& (9223372036854775807 : Int64))), (.long (q2 &&& (9223372036854775807 : Int64))), (.long ((q1 &&& (9223372036854775807 : Int64)) - (q2 &&& (9223372036854775807 : Int64))))]) (rest := []) (lenOf own_pd65 rfl) rfl (by show 2 * 0 + _ ≤ _; exact Nat.le_of_eq rfl) (hb hby at_106) (fun _ _ => ⟨rfl, e16, (by decide : 1 + 0 ≤ _), (by decide : 2 + 0 ≤ _)⟩)
    dsimp only [Pt.U, Pt.locs, Pt.cells, Pt.slots] at X18 l18 y18 z18 st18 hQ18
    subst l18 y18 z18
    obtain ⟨rfl, N18q, e18⟩ := hQ18
    have N19 := Fr.app N17 N18q
    have k20 : ∀ t, Steps p.tables e below (T18.setTop (mkF m 115 #[.val (.long q1), .second, .val (.long q2), .second, .val (.long q3), .second, .val (.int p4), .val (.long (q1 &&& (9223372036854775807 : Int64))), .second, .val (.long (q2 &&& (9223372036854775807 : Int64))), .second, .val (.int (p4 &&& (3 : Int32))), .val (.long ((q1 &&& (9223372036854775807 : Int64)) - (q2 &&& (9223372036854775807 : Int64)))), .second, .val (.ref b2), .val (.int (own_f4 ((q1 &&& (9223372036854775807 : Int64)) - (q2 &&& (9223372036854775807 : Int64))) (q1 &&& (9223372036854775807 : Int64)) ((0 : Int64) + (q2 &&& (9223372036854775807 : Int64))))), .val (.int (own_f5 (q1 &&& (9223372036854775807 : Int64)) (q2 &&& (9223372036854775807 : Int64)) ((q1 &&& (9223372036854775807 : Int64)) - (q2 &&& (9223372036854775807 : Int64)))))] [(.int (own_f5 (q1 &&& (9223372036854775807 : Int64)) (q2 &&& (9223372036854775807 : Int64)) ((q1 &&& (9223372036854775807 : Int64)) - (q2 &&& (9223372036854775807 : Int64))))), (.int (own_f4 ((q1 &&& (9223372036854775807 : Int64)) - (q2 &&& (9223372036854775807 : Int64))) (q1 &&& (9223372036854775807 : Int64)) ((0 : Int64) + (q2 &&& (9223372036854775807 : Int64)))))])) t → Steps p.tables e below (s₁.setTop (entryFrame m #[(.long q1), (.long q2), (.long q3), (.int p4)] maxLocals)) t := by
      intro t kt
      refine k1 t ?_
      show Steps p.tables e below (s₁.setTop (mkF m 27 #[.val (.long q1), .second, .val (.long q2), .second, .val (.long q3), .second, .val (.int p4), .val (.long (q1 &&& (9223372036854775807 : Int64))), .second, .val (.long (q2 &&& (9223372036854775807 : Int64))), .second, .val (.int (p4 &&& (3 : Int32))), .val (.long q3), .second, .unset, .unset, .unset] [(.int (1 : Int32)), (.int (p4 &&& (3 : Int32)))])) _
      refine XS.icmpNo X0.here hx rfl (hb hby at_27) rfl (teq hc1).2 ?_
      show Steps p.tables e below (s₁.setTop (mkF m 30 #[.val (.long q1), .second, .val (.long q2), .second, .val (.long q3), .second, .val (.int p4), .val (.long (q1 &&& (9223372036854775807 : Int64))), .second, .val (.long (q2 &&& (9223372036854775807 : Int64))), .second, .val (.int (p4 &&& (3 : Int32))), .val (.long q3), .second, .unset, .unset, .unset] [])) _
      refine XS.lload X0.here hx rfl (hb hby at_30) rfl ?_
      show Steps p.tables e below (s₁.setTop (mkF m 32 #[.val (.long q1), .second, .val (.long q2), .second, .val (.long q3), .second, .val (.int p4), .val (.long (q1 &&& (9223372036854775807 : Int64))), .second, .val (.long (q2 &&& (9223372036854775807 : Int64))), .second, .val (.int (p4 &&& (3 : Int32))), .val (.long q3), .second, .unset, .unset, .unset] [(.long (q1 &&& (9223372036854775807 : Int64)))])) _
      refine XS.lload X0.here hx rfl (hb hby at_32) rfl ?_
      show Steps p.tables e below (s₁.setTop (mkF m 34 #[.val (.long q1), .second, .val (.long q2), .second, .val (.long q3), .second, .val (.int p4), .val (.long (q1 &&& (9223372036854775807 : Int64))), .second, .val (.long (q2 &&& (9223372036854775807 : Int64))), .second, .val (.int (p4 &&& (3 : Int32))), .val (.long q3), .second, .unset, .unset, .unset] [(.long (q2 &&& (9223372036854775807 : Int64))), (.long (q1 &&& (9223372036854775807 : Int64)))])) _
      refine XS.lsub X0.here hx rfl (hb hby at_34) rfl ?_
      show Steps p.tables e below (s₁.setTop (mkF m 35 #[.val (.long q1), .second, .val (.long q2), .second, .val (.long q3), .second, .val (.int p4), .val (.long (q1 &&& (9223372036854775807 : Int64))), .second, .val (.long (q2 &&& (9223372036854775807 : Int64))), .second, .val (.int (p4 &&& (3 : Int32))), .val (.long q3), .second, .unset, .unset, .unset] [(.long ((q1 &&& (9223372036854775807 : Int64)) - (q2 &&& (9223372036854775807 : Int64))))])) _
      refine XS.lstore X0.here hx rfl (hb hby at_35) rfl (l' := #[.val (.long q1), .second, .val (.long q2), .second, .val (.long q3), .second, .val (.int p4), .val (.long (q1 &&& (9223372036854775807 : Int64))), .second, .val (.long (q2 &&& (9223372036854775807 : Int64))), .second, .val (.int (p4 &&& (3 : Int32))), .val (.long ((q1 &&& (9223372036854775807 : Int64)) - (q2 &&& (9223372036854775807 : Int64)))), .second, .unset, .unset, .unset]) rfl ?_
      show Steps p.tables e below (s₁.setTop (mkF m 37 #[.val (.long q1), .second, .val (.long q2), .second, .val (.long q3), .second, .val (.int p4), .val (.long (q1 &&& (9223372036854775807 : Int64))), .second, .val (.long (q2 &&& (9223372036854775807 : Int64))), .second, .val (.int (p4 &&& (3 : Int32))), .val (.long ((q1 &&& (9223372036854775807 : Int64)) - (q2 &&& (9223372036854775807 : Int64)))), .second, .unset, .unset, .unset] [])) _
      refine XS.goto X0.here hx rfl (pc0 := 37) (pc' := 73) rfl (hb hby at_37) (by decide) (by decide) ?_
      show Steps p.tables e below (s₁.setTop (mkF m 73 #[.val (.long q1), .second, .val (.long q2), .second, .val (.long q3), .second, .val (.int p4), .val (.long (q1 &&& (9223372036854775807 : Int64))), .second, .val (.long (q2 &&& (9223372036854775807 : Int64))), .second, .val (.int (p4 &&& (3 : Int32))), .val (.long ((q1 &&& (9223372036854775807 : Int64)) - (q2 &&& (9223372036854775807 : Int64)))), .second, .unset, .unset, .unset] [])) _
      refine st2 _ ?_
      show Steps p.tables e below (T2.setTop (mkF m 76 #[.val (.long q1), .second, .val (.long q2), .second, .val (.long q3), .second, .val (.int p4), .val (.long (q1 &&& (9223372036854775807 : Int64))), .second, .val (.long (q2 &&& (9223372036854775807 : Int64))), .second, .val (.int (p4 &&& (3 : Int32))), .val (.long ((q1 &&& (9223372036854775807 : Int64)) - (q2 &&& (9223372036854775807 : Int64)))), .second, .unset, .unset, .unset] [(.ref b2)])) _
      refine XS.dup X2.here hx rfl (hb hby at_76) rfl rfl ?_
      show Steps p.tables e below (T2.setTop (mkF m 77 #[.val (.long q1), .second, .val (.long q2), .second, .val (.long q3), .second, .val (.int p4), .val (.long (q1 &&& (9223372036854775807 : Int64))), .second, .val (.long (q2 &&& (9223372036854775807 : Int64))), .second, .val (.int (p4 &&& (3 : Int32))), .val (.long ((q1 &&& (9223372036854775807 : Int64)) - (q2 &&& (9223372036854775807 : Int64)))), .second, .unset, .unset, .unset] [(.ref b2), (.ref b2)])) _
      refine XS.lload X2.here hx rfl (hb hby at_77) rfl ?_
      show Steps p.tables e below (T2.setTop (mkF m 79 #[.val (.long q1), .second, .val (.long q2), .second, .val (.long q3), .second, .val (.int p4), .val (.long (q1 &&& (9223372036854775807 : Int64))), .second, .val (.long (q2 &&& (9223372036854775807 : Int64))), .second, .val (.int (p4 &&& (3 : Int32))), .val (.long ((q1 &&& (9223372036854775807 : Int64)) - (q2 &&& (9223372036854775807 : Int64)))), .second, .unset, .unset, .unset] [(.long (q1 &&& (9223372036854775807 : Int64))), (.ref b2), (.ref b2)])) _
      refine st4.trans ?_
      show Steps p.tables e below (T4.setTop (mkF m 82 #[.val (.long q1), .second, .val (.long q2), .second, .val (.long q3), .second, .val (.int p4), .val (.long (q1 &&& (9223372036854775807 : Int64))), .second, .val (.long (q2 &&& (9223372036854775807 : Int64))), .second, .val (.int (p4 &&& (3 : Int32))), .val (.long ((q1 &&& (9223372036854775807 : Int64)) - (q2 &&& (9223372036854775807 : Int64)))), .second, .unset, .unset, .unset] [(.ref b2)])) _
      refine XS.astore X4.here hx rfl (hb hby at_82) rfl rfl (l' := #[.val (.long q1), .second, .val (.long q2), .second, .val (.long q3), .second, .val (.int p4), .val (.long (q1 &&& (9223372036854775807 : Int64))), .second, .val (.long (q2 &&& (9223372036854775807 : Int64))), .second, .val (.int (p4 &&& (3 : Int32))), .val (.long ((q1 &&& (9223372036854775807 : Int64)) - (q2 &&& (9223372036854775807 : Int64)))), .second, .val (.ref b2), .unset, .unset]) rfl ?_
      show Steps p.tables e below (T4.setTop (mkF m 84 #[.val (.long q1), .second, .val (.long q2), .second, .val (.long q3), .second, .val (.int p4), .val (.long (q1 &&& (9223372036854775807 : Int64))), .second, .val (.long (q2 &&& (9223372036854775807 : Int64))), .second, .val (.int (p4 &&& (3 : Int32))), .val (.long ((q1 &&& (9223372036854775807 : Int64)) - (q2 &&& (9223372036854775807 : Int64)))), .second, .val (.ref b2), .unset, .unset] [])) _
      refine XS.aload X4.here hx rfl (hb hby at_84) rfl rfl ?_
      show Steps p.tables e below (T4.setTop (mkF m 86 #[.val (.long q1), .second, .val (.long q2), .second, .val (.long q3), .second, .val (.int p4), .val (.long (q1 &&& (9223372036854775807 : Int64))), .second, .val (.long (q2 &&& (9223372036854775807 : Int64))), .second, .val (.int (p4 &&& (3 : Int32))), .val (.long ((q1 &&& (9223372036854775807 : Int64)) - (q2 &&& (9223372036854775807 : Int64)))), .second, .val (.ref b2), .unset, .unset] [(.ref b2)])) _
      refine XS.lload X4.here hx rfl (hb hby at_86) rfl ?_
      show Steps p.tables e below (T4.setTop (mkF m 88 #[.val (.long q1), .second, .val (.long q2), .second, .val (.long q3), .second, .val (.int p4), .val (.long (q1 &&& (9223372036854775807 : Int64))), .second, .val (.long (q2 &&& (9223372036854775807 : Int64))), .second, .val (.int (p4 &&& (3 : Int32))), .val (.long ((q1 &&& (9223372036854775807 : Int64)) - (q2 &&& (9223372036854775807 : Int64)))), .second, .val (.ref b2), .unset, .unset] [(.long (q2 &&& (9223372036854775807 : Int64))), (.ref b2)])) _
      refine st10.trans ?_
      show Steps p.tables e below (T10.setTop (mkF m 91 #[.val (.long q1), .second, .val (.long q2), .second, .val (.long q3), .second, .val (.int p4), .val (.long (q1 &&& (9223372036854775807 : Int64))), .second, .val (.long (q2 &&& (9223372036854775807 : Int64))), .second, .val (.int (p4 &&& (3 : Int32))), .val (.long ((q1 &&& (9223372036854775807 : Int64)) - (q2 &&& (9223372036854775807 : Int64)))), .second, .val (.ref b2), .unset, .unset] [])) _
      refine XS.aload X10.here hx rfl (hb hby at_91) rfl rfl ?_
      show Steps p.tables e below (T10.setTop (mkF m 93 #[.val (.long q1), .second, .val (.long q2), .second, .val (.long q3), .second, .val (.int p4), .val (.long (q1 &&& (9223372036854775807 : Int64))), .second, .val (.long (q2 &&& (9223372036854775807 : Int64))), .second, .val (.int (p4 &&& (3 : Int32))), .val (.long ((q1 &&& (9223372036854775807 : Int64)) - (q2 &&& (9223372036854775807 : Int64)))), .second, .val (.ref b2), .unset, .unset] [(.ref b2)])) _
      refine XS.lload X10.here hx rfl (hb hby at_93) rfl ?_
      show Steps p.tables e below (T10.setTop (mkF m 95 #[.val (.long q1), .second, .val (.long q2), .second, .val (.long q3), .second, .val (.int p4), .val (.long (q1 &&& (9223372036854775807 : Int64))), .second, .val (.long (q2 &&& (9223372036854775807 : Int64))), .second, .val (.int (p4 &&& (3 : Int32))), .val (.long ((q1 &&& (9223372036854775807 : Int64)) - (q2 &&& (9223372036854775807 : Int64)))), .second, .val (.ref b2), .unset, .unset] [(.long ((q1 &&& (9223372036854775807 : Int64)) - (q2 &&& (9223372036854775807 : Int64)))), (.ref b2)])) _
      refine st16.trans ?_
      show Steps p.tables e below (T16.setTop (mkF m 98 #[.val (.long q1), .second, .val (.long q2), .second, .val (.long q3), .second, .val (.int p4), .val (.long (q1 &&& (9223372036854775807 : Int64))), .second, .val (.long (q2 &&& (9223372036854775807 : Int64))), .second, .val (.int (p4 &&& (3 : Int32))), .val (.long ((q1 &&& (9223372036854775807 : Int64)) - (q2 &&& (9223372036854775807 : Int64)))), .second, .val (.ref b2), .unset, .unset] [(.int (own_f4 ((q1 &&& (9223372036854775807 : Int64)) - (q2 &&& (9223372036854775807 : Int64))) (q1 &&& (9223372036854775807 : Int64)) ((0 : Int64) + (q2 &&& (9223372036854775807 : Int64)))))])) _
      refine XS.istore X16.here hx rfl (hb hby at_98) rfl (l' := #[.val (.long q1), .second, .val (.long q2), .second, .val (.long q3), .second, .val (.int p4), .val (.long (q1 &&& (9223372036854775807 : Int64))), .second, .val (.long (q2 &&& (9223372036854775807 : Int64))), .second, .val (.int (p4 &&& (3 : Int32))), .val (.long ((q1 &&& (9223372036854775807 : Int64)) - (q2 &&& (9223372036854775807 : Int64)))), .second, .val (.ref b2), .val (.int (own_f4 ((q1 &&& (9223372036854775807 : Int64)) - (q2 &&& (9223372036854775807 : Int64))) (q1 &&& (9223372036854775807 : Int64)) ((0 : Int64) + (q2 &&& (9223372036854775807 : Int64))))), .unset]) rfl ?_
      show Steps p.tables e below (T16.setTop (mkF m 100 #[.val (.long q1), .second, .val (.long q2), .second, .val (.long q3), .second, .val (.int p4), .val (.long (q1 &&& (9223372036854775807 : Int64))), .second, .val (.long (q2 &&& (9223372036854775807 : Int64))), .second, .val (.int (p4 &&& (3 : Int32))), .val (.long ((q1 &&& (9223372036854775807 : Int64)) - (q2 &&& (9223372036854775807 : Int64)))), .second, .val (.ref b2), .val (.int (own_f4 ((q1 &&& (9223372036854775807 : Int64)) - (q2 &&& (9223372036854775807 : Int64))) (q1 &&& (9223372036854775807 : Int64)) ((0 : Int64) + (q2 &&& (9223372036854775807 : Int64))))), .unset] [])) _
      refine XS.lload X16.here hx rfl (hb hby at_100) rfl ?_
      show Steps p.tables e below (T16.setTop (mkF m 102 #[.val (.long q1), .second, .val (.long q2), .second, .val (.long q3), .second, .val (.int p4), .val (.long (q1 &&& (9223372036854775807 : Int64))), .second, .val (.long (q2 &&& (9223372036854775807 : Int64))), .second, .val (.int (p4 &&& (3 : Int32))), .val (.long ((q1 &&& (9223372036854775807 : Int64)) - (q2 &&& (9223372036854775807 : Int64)))), .second, .val (.ref b2), .val (.int (own_f4 ((q1 &&& (9223372036854775807 : Int64)) - (q2 &&& (9223372036854775807 : Int64))) (q1 &&& (9223372036854775807 : Int64)) ((0 : Int64) + (q2 &&& (9223372036854775807 : Int64))))), .unset] [(.long (q1 &&& (9223372036854775807 : Int64)))])) _
      refine XS.lload X16.here hx rfl (hb hby at_102) rfl ?_
      show Steps p.tables e below (T16.setTop (mkF m 104 #[.val (.long q1), .second, .val (.long q2), .second, .val (.long q3), .second, .val (.int p4), .val (.long (q1 &&& (9223372036854775807 : Int64))), .second, .val (.long (q2 &&& (9223372036854775807 : Int64))), .second, .val (.int (p4 &&& (3 : Int32))), .val (.long ((q1 &&& (9223372036854775807 : Int64)) - (q2 &&& (9223372036854775807 : Int64)))), .second, .val (.ref b2), .val (.int (own_f4 ((q1 &&& (9223372036854775807 : Int64)) - (q2 &&& (9223372036854775807 : Int64))) (q1 &&& (9223372036854775807 : Int64)) ((0 : Int64) + (q2 &&& (9223372036854775807 : Int64))))), .unset] [(.long (q2 &&& (9223372036854775807 : Int64))), (.long (q1 &&& (9223372036854775807 : Int64)))])) _
      refine XS.lload X16.here hx rfl (hb hby at_104) rfl ?_
      show Steps p.tables e below (T16.setTop (mkF m 106 #[.val (.long q1), .second, .val (.long q2), .second, .val (.long q3), .second, .val (.int p4), .val (.long (q1 &&& (9223372036854775807 : Int64))), .second, .val (.long (q2 &&& (9223372036854775807 : Int64))), .second, .val (.int (p4 &&& (3 : Int32))), .val (.long ((q1 &&& (9223372036854775807 : Int64)) - (q2 &&& (9223372036854775807 : Int64)))), .second, .val (.ref b2), .val (.int (own_f4 ((q1 &&& (9223372036854775807 : Int64)) - (q2 &&& (9223372036854775807 : Int64))) (q1 &&& (9223372036854775807 : Int64)) ((0 : Int64) + (q2 &&& (9223372036854775807 : Int64))))), .unset] [(.long ((q1 &&& (9223372036854775807 : Int64)) - (q2 &&& (9223372036854775807 : Int64)))), (.long (q2 &&& (9223372036854775807 : Int64))), (.long (q1 &&& (9223372036854775807 : Int64)))])) _
      refine st18 _ ?_
      show Steps p.tables e below (T18.setTop (mkF m 109 #[.val (.long q1), .second, .val (.long q2), .second, .val (.long q3), .second, .val (.int p4), .val (.long (q1 &&& (9223372036854775807 : Int64))), .second, .val (.long (q2 &&& (9223372036854775807 : Int64))), .second, .val (.int (p4 &&& (3 : Int32))), .val (.long ((q1 &&& (9223372036854775807 : Int64)) - (q2 &&& (9223372036854775807 : Int64)))), .second, .val (.ref b2), .val (.int (own_f4 ((q1 &&& (9223372036854775807 : Int64)) - (q2 &&& (9223372036854775807 : Int64))) (q1 &&& (9223372036854775807 : Int64)) ((0 : Int64) + (q2 &&& (9223372036854775807 : Int64))))), .unset] [(.int (own_f5 (q1 &&& (9223372036854775807 : Int64)) (q2 &&& (9223372036854775807 : Int64)) ((q1 &&& (9223372036854775807 : Int64)) - (q2 &&& (9223372036854775807 : Int64)))))])) _
      refine XS.istore X18.here hx rfl (hb hby at_109) rfl (l' := #[.val (.long q1), .second, .val (.long q2), .second, .val (.long q3), .second, .val (.int p4), .val (.long (q1 &&& (9223372036854775807 : Int64))), .second, .val (.long (q2 &&& (9223372036854775807 : Int64))), .second, .val (.int (p4 &&& (3 : Int32))), .val (.long ((q1 &&& (9223372036854775807 : Int64)) - (q2 &&& (9223372036854775807 : Int64)))), .second, .val (.ref b2), .val (.int (own_f4 ((q1 &&& (9223372036854775807 : Int64)) - (q2 &&& (9223372036854775807 : Int64))) (q1 &&& (9223372036854775807 : Int64)) ((0 : Int64) + (q2 &&& (9223372036854775807 : Int64))))), .val (.int (own_f5 (q1 &&& (9223372036854775807 : Int64)) (q2 &&& (9223372036854775807 : Int64)) ((q1 &&& (9223372036854775807 : Int64)) - (q2 &&& (9223372036854775807 : Int64)))))]) rfl ?_
      show Steps p.tables e below (T18.setTop (mkF m 111 #[.val (.long q1), .second, .val (.long q2), .second, .val (.long q3), .second, .val (.int p4), .val (.long (q1 &&& (9223372036854775807 : Int64))), .second, .val (.long (q2 &&& (9223372036854775807 : Int64))), .second, .val (.int (p4 &&& (3 : Int32))), .val (.long ((q1 &&& (9223372036854775807 : Int64)) - (q2 &&& (9223372036854775807 : Int64)))), .second, .val (.ref b2), .val (.int (own_f4 ((q1 &&& (9223372036854775807 : Int64)) - (q2 &&& (9223372036854775807 : Int64))) (q1 &&& (9223372036854775807 : Int64)) ((0 : Int64) + (q2 &&& (9223372036854775807 : Int64))))), .val (.int (own_f5 (q1 &&& (9223372036854775807 : Int64)) (q2 &&& (9223372036854775807 : Int64)) ((q1 &&& (9223372036854775807 : Int64)) - (q2 &&& (9223372036854775807 : Int64)))))] [])) _
      refine XS.iload X18.here hx rfl (hb hby at_111) rfl ?_
      show Steps p.tables e below (T18.setTop (mkF m 113 #[.val (.long q1), .second, .val (.long q2), .second, .val (.long q3), .second, .val (.int p4), .val (.long (q1 &&& (9223372036854775807 : Int64))), .second, .val (.long (q2 &&& (9223372036854775807 : Int64))), .second, .val (.int (p4 &&& (3 : Int32))), .val (.long ((q1 &&& (9223372036854775807 : Int64)) - (q2 &&& (9223372036854775807 : Int64)))), .second, .val (.ref b2), .val (.int (own_f4 ((q1 &&& (9223372036854775807 : Int64)) - (q2 &&& (9223372036854775807 : Int64))) (q1 &&& (9223372036854775807 : Int64)) ((0 : Int64) + (q2 &&& (9223372036854775807 : Int64))))), .val (.int (own_f5 (q1 &&& (9223372036854775807 : Int64)) (q2 &&& (9223372036854775807 : Int64)) ((q1 &&& (9223372036854775807 : Int64)) - (q2 &&& (9223372036854775807 : Int64)))))] [(.int (own_f4 ((q1 &&& (9223372036854775807 : Int64)) - (q2 &&& (9223372036854775807 : Int64))) (q1 &&& (9223372036854775807 : Int64)) ((0 : Int64) + (q2 &&& (9223372036854775807 : Int64)))))])) _
      refine XS.iload X18.here hx rfl (hb hby at_113) rfl ?_
      exact kt
    by_cases hc2 : (own_f4 ((q1 &&& (9223372036854775807 : Int64)) - (q2 &&& (9223372036854775807 : Int64))) (q1 &&& (9223372036854775807 : Int64)) ((0 : Int64) + (q2 &&& (9223372036854775807 : Int64)))) = (own_f5 (q1 &&& (9223372036854775807 : Int64)) (q2 &&& (9223372036854775807 : Int64)) ((q1 &&& (9223372036854775807 : Int64)) - (q2 &&& (9223372036854775807 : Int64))))
    ·
      obtain ⟨cq21, kq21, q21a, q21b, q21c⟩ := isOf hZ e18 Q10_0
      obtain ⟨v21, _, ⟨T21, L21, k21, n21⟩, -, X21, ⟨Lc21, hQ21, l21, y21, z21⟩, st21⟩ := X18.virtualBack hx (y := (⟨"com/example/castd/castd/Room", "bytes", "()J"⟩ : MethodName)) (z := (⟨"com/example/castd/castd/Room", "bytes", "()J"⟩ : MethodName)) hown (mvT hZ (hw _ (List.mem_of_getElem? (i := 28) rfl))) (mvT hZ (hw _ (List.mem_of_getElem? (i := 29) rfl))) (notFace_of_selects (args := #[]) (mvT hZ (hw _ (List.mem_of_getElem? (i := 31) rfl)))) (mvT hZ (hw _ (List.mem_of_getElem? (i := 31) rfl))) (mvT hZ (hw _ (List.mem_of_getElem? (i := 30) rfl))) (by decide) (backOf (W := 0) (own_rm6 l Z a0 hw [] b2 ((0 : Int64) + (q2 &&& (9223372036854775807 : Int64))) T10.heap n0 Z14 Q10_1) hZ (hw _ (List.mem_of_getElem? (i := 32) rfl)) (hw _ (List.mem_of_getElem? (i := 3) rfl)) (by decide) (by decide)) q21a q21c (g := (mkF m 120 #[.val (.long q1), .second, .val (.long q2), .second, .val (.long q3), .second, .val (.int p4), .val (.long (q1 &&& (9223372036854775807 : Int64))), .second, .val (.long (q2 &&& (9223372036854775807 : Int64))), .second, .val (.int (p4 &&& (3 : Int32))), .val (.long ((q1 &&& (9223372036854775807 : Int64)) - (q2 &&& (9223372036854775807 : Int64)))), .second, .val (.ref b2), .val (.int (own_f4 ((q1 &&& (9223372036854775807 : Int64)) - (q2 &&& (9223372036854775807 : Int64))) (q1 &&& (9223372036854775807 : Int64)) ((0 : Int64) + (q2 &&& (9223372036854775807 : Int64))))), .val (.int (own_f5 (q1 &&& (9223372036854775807 : Int64)) (q2 &&& (9223372036854775807 : Int64)) ((q1 &&& (9223372036854775807 : Int64)) - (q2 &&& (9223372036854775807 : Int64)))))] [(.ref b2)])) rfl (by rw [hml]; rfl) (Steps.refl _) (argsL := []) (rest := []) (lenOf own_pd66 rfl) rfl (by show 2 * 0 + _ ≤ _; exact Nat.le_of_eq rfl) (hb hby at_120) (fun _ _ => ⟨rfl, e18, (by decide : 1 + 0 ≤ _), (by decide : 2 + 0 ≤ _)⟩)
      dsimp only [Pt.U, Pt.locs, Pt.cells, Pt.slots] at X21 l21 y21 z21 st21 hQ21
      subst l21 y21 z21
      obtain ⟨hv21, N21q, e21⟩ := hQ21
      have N22 := Fr.app N19 N21q
      rw [show (own_f6 ((0 : Int64) + (q2 &&& (9223372036854775807 : Int64)))) = ((0 : Int64) + (q2 &&& (9223372036854775807 : Int64))) from by first | rfl | decide | simp [own_f6]] at hv21
      subst hv21
      have k23 : ∀ t, Steps p.tables e below (T21.setTop (mkF m 126 #[.val (.long q1), .second, .val (.long q2), .second, .val (.long q3), .second, .val (.int p4), .val (.long (q1 &&& (9223372036854775807 : Int64))), .second, .val (.long (q2 &&& (9223372036854775807 : Int64))), .second, .val (.int (p4 &&& (3 : Int32))), .val (.long ((q1 &&& (9223372036854775807 : Int64)) - (q2 &&& (9223372036854775807 : Int64)))), .second, .val (.ref b2), .val (.int (own_f4 ((q1 &&& (9223372036854775807 : Int64)) - (q2 &&& (9223372036854775807 : Int64))) (q1 &&& (9223372036854775807 : Int64)) ((0 : Int64) + (q2 &&& (9223372036854775807 : Int64))))), .val (.int (own_f5 (q1 &&& (9223372036854775807 : Int64)) (q2 &&& (9223372036854775807 : Int64)) ((q1 &&& (9223372036854775807 : Int64)) - (q2 &&& (9223372036854775807 : Int64)))))] [(.int (lcmpW ((0 : Int64) + (q2 &&& (9223372036854775807 : Int64))) (q2 &&& (9223372036854775807 : Int64))))])) t → Steps p.tables e below (s₁.setTop (entryFrame m #[(.long q1), (.long q2), (.long q3), (.int p4)] maxLocals)) t := by
        intro t kt
        refine k20 t ?_
        show Steps p.tables e below (T18.setTop (mkF m 115 #[.val (.long q1), .second, .val (.long q2), .second, .val (.long q3), .second, .val (.int p4), .val (.long (q1 &&& (9223372036854775807 : Int64))), .second, .val (.long (q2 &&& (9223372036854775807 : Int64))), .second, .val (.int (p4 &&& (3 : Int32))), .val (.long ((q1 &&& (9223372036854775807 : Int64)) - (q2 &&& (9223372036854775807 : Int64)))), .second, .val (.ref b2), .val (.int (own_f4 ((q1 &&& (9223372036854775807 : Int64)) - (q2 &&& (9223372036854775807 : Int64))) (q1 &&& (9223372036854775807 : Int64)) ((0 : Int64) + (q2 &&& (9223372036854775807 : Int64))))), .val (.int (own_f5 (q1 &&& (9223372036854775807 : Int64)) (q2 &&& (9223372036854775807 : Int64)) ((q1 &&& (9223372036854775807 : Int64)) - (q2 &&& (9223372036854775807 : Int64)))))] [(.int (own_f5 (q1 &&& (9223372036854775807 : Int64)) (q2 &&& (9223372036854775807 : Int64)) ((q1 &&& (9223372036854775807 : Int64)) - (q2 &&& (9223372036854775807 : Int64))))), (.int (own_f4 ((q1 &&& (9223372036854775807 : Int64)) - (q2 &&& (9223372036854775807 : Int64))) (q1 &&& (9223372036854775807 : Int64)) ((0 : Int64) + (q2 &&& (9223372036854775807 : Int64)))))])) _
        refine XS.icmpNo X18.here hx rfl (hb hby at_115) rfl (teq hc2).2 ?_
        show Steps p.tables e below (T18.setTop (mkF m 118 #[.val (.long q1), .second, .val (.long q2), .second, .val (.long q3), .second, .val (.int p4), .val (.long (q1 &&& (9223372036854775807 : Int64))), .second, .val (.long (q2 &&& (9223372036854775807 : Int64))), .second, .val (.int (p4 &&& (3 : Int32))), .val (.long ((q1 &&& (9223372036854775807 : Int64)) - (q2 &&& (9223372036854775807 : Int64)))), .second, .val (.ref b2), .val (.int (own_f4 ((q1 &&& (9223372036854775807 : Int64)) - (q2 &&& (9223372036854775807 : Int64))) (q1 &&& (9223372036854775807 : Int64)) ((0 : Int64) + (q2 &&& (9223372036854775807 : Int64))))), .val (.int (own_f5 (q1 &&& (9223372036854775807 : Int64)) (q2 &&& (9223372036854775807 : Int64)) ((q1 &&& (9223372036854775807 : Int64)) - (q2 &&& (9223372036854775807 : Int64)))))] [])) _
        refine XS.aload X18.here hx rfl (hb hby at_118) rfl rfl ?_
        show Steps p.tables e below (T18.setTop (mkF m 120 #[.val (.long q1), .second, .val (.long q2), .second, .val (.long q3), .second, .val (.int p4), .val (.long (q1 &&& (9223372036854775807 : Int64))), .second, .val (.long (q2 &&& (9223372036854775807 : Int64))), .second, .val (.int (p4 &&& (3 : Int32))), .val (.long ((q1 &&& (9223372036854775807 : Int64)) - (q2 &&& (9223372036854775807 : Int64)))), .second, .val (.ref b2), .val (.int (own_f4 ((q1 &&& (9223372036854775807 : Int64)) - (q2 &&& (9223372036854775807 : Int64))) (q1 &&& (9223372036854775807 : Int64)) ((0 : Int64) + (q2 &&& (9223372036854775807 : Int64))))), .val (.int (own_f5 (q1 &&& (9223372036854775807 : Int64)) (q2 &&& (9223372036854775807 : Int64)) ((q1 &&& (9223372036854775807 : Int64)) - (q2 &&& (9223372036854775807 : Int64)))))] [(.ref b2)])) _
        refine st21.trans ?_
        show Steps p.tables e below (T21.setTop (mkF m 123 #[.val (.long q1), .second, .val (.long q2), .second, .val (.long q3), .second, .val (.int p4), .val (.long (q1 &&& (9223372036854775807 : Int64))), .second, .val (.long (q2 &&& (9223372036854775807 : Int64))), .second, .val (.int (p4 &&& (3 : Int32))), .val (.long ((q1 &&& (9223372036854775807 : Int64)) - (q2 &&& (9223372036854775807 : Int64)))), .second, .val (.ref b2), .val (.int (own_f4 ((q1 &&& (9223372036854775807 : Int64)) - (q2 &&& (9223372036854775807 : Int64))) (q1 &&& (9223372036854775807 : Int64)) ((0 : Int64) + (q2 &&& (9223372036854775807 : Int64))))), .val (.int (own_f5 (q1 &&& (9223372036854775807 : Int64)) (q2 &&& (9223372036854775807 : Int64)) ((q1 &&& (9223372036854775807 : Int64)) - (q2 &&& (9223372036854775807 : Int64)))))] [(.long ((0 : Int64) + (q2 &&& (9223372036854775807 : Int64))))])) _
        refine XS.lload X21.here hx rfl (hb hby at_123) rfl ?_
        show Steps p.tables e below (T21.setTop (mkF m 125 #[.val (.long q1), .second, .val (.long q2), .second, .val (.long q3), .second, .val (.int p4), .val (.long (q1 &&& (9223372036854775807 : Int64))), .second, .val (.long (q2 &&& (9223372036854775807 : Int64))), .second, .val (.int (p4 &&& (3 : Int32))), .val (.long ((q1 &&& (9223372036854775807 : Int64)) - (q2 &&& (9223372036854775807 : Int64)))), .second, .val (.ref b2), .val (.int (own_f4 ((q1 &&& (9223372036854775807 : Int64)) - (q2 &&& (9223372036854775807 : Int64))) (q1 &&& (9223372036854775807 : Int64)) ((0 : Int64) + (q2 &&& (9223372036854775807 : Int64))))), .val (.int (own_f5 (q1 &&& (9223372036854775807 : Int64)) (q2 &&& (9223372036854775807 : Int64)) ((q1 &&& (9223372036854775807 : Int64)) - (q2 &&& (9223372036854775807 : Int64)))))] [(.long (q2 &&& (9223372036854775807 : Int64))), (.long ((0 : Int64) + (q2 &&& (9223372036854775807 : Int64))))])) _
        refine XS.lcmp X21.here hx rfl (hb hby at_125) rfl ?_
        exact kt
      by_cases hc3 : (lcmpW ((0 : Int64) + (q2 &&& (9223372036854775807 : Int64))) (q2 &&& (9223372036854775807 : Int64))) = (0 : Int32)
      ·
        obtain ⟨cq24, kq24, q24a, q24b, q24c⟩ := isOf hZ e21 Q10_0
        obtain ⟨v24, _, ⟨T24, L24, k24, n24⟩, -, X24, ⟨Lc24, hQ24, l24, y24, z24⟩, st24⟩ := X21.virtualBack hx (y := (⟨"com/example/castd/castd/Room", "maxBytes", "()J"⟩ : MethodName)) (z := (⟨"com/example/castd/castd/Room", "maxBytes", "()J"⟩ : MethodName)) hown (mvT hZ (hw _ (List.mem_of_getElem? (i := 33) rfl))) (mvT hZ (hw _ (List.mem_of_getElem? (i := 34) rfl))) (notFace_of_selects (args := #[]) (mvT hZ (hw _ (List.mem_of_getElem? (i := 36) rfl)))) (mvT hZ (hw _ (List.mem_of_getElem? (i := 36) rfl))) (mvT hZ (hw _ (List.mem_of_getElem? (i := 35) rfl))) (by decide) (backOf (W := 0) (own_rm7 l Z a0 hw [] b2 (q1 &&& (9223372036854775807 : Int64)) T10.heap n0 Z14 Q10_2) hZ (hw _ (List.mem_of_getElem? (i := 37) rfl)) (hw _ (List.mem_of_getElem? (i := 3) rfl)) (by decide) (by decide)) q24a q24c (g := (mkF m 131 #[.val (.long q1), .second, .val (.long q2), .second, .val (.long q3), .second, .val (.int p4), .val (.long (q1 &&& (9223372036854775807 : Int64))), .second, .val (.long (q2 &&& (9223372036854775807 : Int64))), .second, .val (.int (p4 &&& (3 : Int32))), .val (.long ((q1 &&& (9223372036854775807 : Int64)) - (q2 &&& (9223372036854775807 : Int64)))), .second, .val (.ref b2), .val (.int (own_f4 ((q1 &&& (9223372036854775807 : Int64)) - (q2 &&& (9223372036854775807 : Int64))) (q1 &&& (9223372036854775807 : Int64)) ((0 : Int64) + (q2 &&& (9223372036854775807 : Int64))))), .val (.int (own_f5 (q1 &&& (9223372036854775807 : Int64)) (q2 &&& (9223372036854775807 : Int64)) ((q1 &&& (9223372036854775807 : Int64)) - (q2 &&& (9223372036854775807 : Int64)))))] [(.ref b2)])) rfl (by rw [hml]; rfl) (Steps.refl _) (argsL := []) (rest := []) (lenOf own_pd66 rfl) rfl (by show 2 * 0 + _ ≤ _; exact Nat.le_of_eq rfl) (hb hby at_131) (fun _ _ => ⟨rfl, e21, (by decide : 1 + 0 ≤ _), (by decide : 2 + 0 ≤ _)⟩)
        dsimp only [Pt.U, Pt.locs, Pt.cells, Pt.slots] at X24 l24 y24 z24 st24 hQ24
        subst l24 y24 z24
        obtain ⟨hv24, N24q, e24⟩ := hQ24
        have N25 := Fr.app N22 N24q
        rw [show (own_f7 (q1 &&& (9223372036854775807 : Int64))) = (q1 &&& (9223372036854775807 : Int64)) from by first | rfl | decide | simp [own_f7]] at hv24
        subst hv24
        have k26 : ∀ t, Steps p.tables e below (T24.setTop (mkF m 137 #[.val (.long q1), .second, .val (.long q2), .second, .val (.long q3), .second, .val (.int p4), .val (.long (q1 &&& (9223372036854775807 : Int64))), .second, .val (.long (q2 &&& (9223372036854775807 : Int64))), .second, .val (.int (p4 &&& (3 : Int32))), .val (.long ((q1 &&& (9223372036854775807 : Int64)) - (q2 &&& (9223372036854775807 : Int64)))), .second, .val (.ref b2), .val (.int (own_f4 ((q1 &&& (9223372036854775807 : Int64)) - (q2 &&& (9223372036854775807 : Int64))) (q1 &&& (9223372036854775807 : Int64)) ((0 : Int64) + (q2 &&& (9223372036854775807 : Int64))))), .val (.int (own_f5 (q1 &&& (9223372036854775807 : Int64)) (q2 &&& (9223372036854775807 : Int64)) ((q1 &&& (9223372036854775807 : Int64)) - (q2 &&& (9223372036854775807 : Int64)))))] [(.int (lcmpW (q1 &&& (9223372036854775807 : Int64)) (q1 &&& (9223372036854775807 : Int64))))])) t → Steps p.tables e below (s₁.setTop (entryFrame m #[(.long q1), (.long q2), (.long q3), (.int p4)] maxLocals)) t := by
          intro t kt
          refine k23 t ?_
          show Steps p.tables e below (T21.setTop (mkF m 126 #[.val (.long q1), .second, .val (.long q2), .second, .val (.long q3), .second, .val (.int p4), .val (.long (q1 &&& (9223372036854775807 : Int64))), .second, .val (.long (q2 &&& (9223372036854775807 : Int64))), .second, .val (.int (p4 &&& (3 : Int32))), .val (.long ((q1 &&& (9223372036854775807 : Int64)) - (q2 &&& (9223372036854775807 : Int64)))), .second, .val (.ref b2), .val (.int (own_f4 ((q1 &&& (9223372036854775807 : Int64)) - (q2 &&& (9223372036854775807 : Int64))) (q1 &&& (9223372036854775807 : Int64)) ((0 : Int64) + (q2 &&& (9223372036854775807 : Int64))))), .val (.int (own_f5 (q1 &&& (9223372036854775807 : Int64)) (q2 &&& (9223372036854775807 : Int64)) ((q1 &&& (9223372036854775807 : Int64)) - (q2 &&& (9223372036854775807 : Int64)))))] [(.int (lcmpW ((0 : Int64) + (q2 &&& (9223372036854775807 : Int64))) (q2 &&& (9223372036854775807 : Int64))))])) _
          refine XS.ifNo X21.here hx rfl (hb hby at_126) rfl ((if0 _ _).trans (teq hc3).2) ?_
          show Steps p.tables e below (T21.setTop (mkF m 129 #[.val (.long q1), .second, .val (.long q2), .second, .val (.long q3), .second, .val (.int p4), .val (.long (q1 &&& (9223372036854775807 : Int64))), .second, .val (.long (q2 &&& (9223372036854775807 : Int64))), .second, .val (.int (p4 &&& (3 : Int32))), .val (.long ((q1 &&& (9223372036854775807 : Int64)) - (q2 &&& (9223372036854775807 : Int64)))), .second, .val (.ref b2), .val (.int (own_f4 ((q1 &&& (9223372036854775807 : Int64)) - (q2 &&& (9223372036854775807 : Int64))) (q1 &&& (9223372036854775807 : Int64)) ((0 : Int64) + (q2 &&& (9223372036854775807 : Int64))))), .val (.int (own_f5 (q1 &&& (9223372036854775807 : Int64)) (q2 &&& (9223372036854775807 : Int64)) ((q1 &&& (9223372036854775807 : Int64)) - (q2 &&& (9223372036854775807 : Int64)))))] [])) _
          refine XS.aload X21.here hx rfl (hb hby at_129) rfl rfl ?_
          show Steps p.tables e below (T21.setTop (mkF m 131 #[.val (.long q1), .second, .val (.long q2), .second, .val (.long q3), .second, .val (.int p4), .val (.long (q1 &&& (9223372036854775807 : Int64))), .second, .val (.long (q2 &&& (9223372036854775807 : Int64))), .second, .val (.int (p4 &&& (3 : Int32))), .val (.long ((q1 &&& (9223372036854775807 : Int64)) - (q2 &&& (9223372036854775807 : Int64)))), .second, .val (.ref b2), .val (.int (own_f4 ((q1 &&& (9223372036854775807 : Int64)) - (q2 &&& (9223372036854775807 : Int64))) (q1 &&& (9223372036854775807 : Int64)) ((0 : Int64) + (q2 &&& (9223372036854775807 : Int64))))), .val (.int (own_f5 (q1 &&& (9223372036854775807 : Int64)) (q2 &&& (9223372036854775807 : Int64)) ((q1 &&& (9223372036854775807 : Int64)) - (q2 &&& (9223372036854775807 : Int64)))))] [(.ref b2)])) _
          refine st24.trans ?_
          show Steps p.tables e below (T24.setTop (mkF m 134 #[.val (.long q1), .second, .val (.long q2), .second, .val (.long q3), .second, .val (.int p4), .val (.long (q1 &&& (9223372036854775807 : Int64))), .second, .val (.long (q2 &&& (9223372036854775807 : Int64))), .second, .val (.int (p4 &&& (3 : Int32))), .val (.long ((q1 &&& (9223372036854775807 : Int64)) - (q2 &&& (9223372036854775807 : Int64)))), .second, .val (.ref b2), .val (.int (own_f4 ((q1 &&& (9223372036854775807 : Int64)) - (q2 &&& (9223372036854775807 : Int64))) (q1 &&& (9223372036854775807 : Int64)) ((0 : Int64) + (q2 &&& (9223372036854775807 : Int64))))), .val (.int (own_f5 (q1 &&& (9223372036854775807 : Int64)) (q2 &&& (9223372036854775807 : Int64)) ((q1 &&& (9223372036854775807 : Int64)) - (q2 &&& (9223372036854775807 : Int64)))))] [(.long (q1 &&& (9223372036854775807 : Int64)))])) _
          refine XS.lload X24.here hx rfl (hb hby at_134) rfl ?_
          show Steps p.tables e below (T24.setTop (mkF m 136 #[.val (.long q1), .second, .val (.long q2), .second, .val (.long q3), .second, .val (.int p4), .val (.long (q1 &&& (9223372036854775807 : Int64))), .second, .val (.long (q2 &&& (9223372036854775807 : Int64))), .second, .val (.int (p4 &&& (3 : Int32))), .val (.long ((q1 &&& (9223372036854775807 : Int64)) - (q2 &&& (9223372036854775807 : Int64)))), .second, .val (.ref b2), .val (.int (own_f4 ((q1 &&& (9223372036854775807 : Int64)) - (q2 &&& (9223372036854775807 : Int64))) (q1 &&& (9223372036854775807 : Int64)) ((0 : Int64) + (q2 &&& (9223372036854775807 : Int64))))), .val (.int (own_f5 (q1 &&& (9223372036854775807 : Int64)) (q2 &&& (9223372036854775807 : Int64)) ((q1 &&& (9223372036854775807 : Int64)) - (q2 &&& (9223372036854775807 : Int64)))))] [(.long (q1 &&& (9223372036854775807 : Int64))), (.long (q1 &&& (9223372036854775807 : Int64)))])) _
          refine XS.lcmp X24.here hx rfl (hb hby at_136) rfl ?_
          exact kt
        by_cases hc4 : (lcmpW (q1 &&& (9223372036854775807 : Int64)) (q1 &&& (9223372036854775807 : Int64))) = (0 : Int32)
        ·
          obtain ⟨fs, hr, hrun, hended, hW, hsame⟩ := X24.leave (v := some (.int (1 : Int32))) (fun h => by rw [Bd.returns] at h; cases h)
          refine ⟨_, _, k26 _ ?_, hrun, hended, _, _, rfl, ?_, ⟨_, rfl⟩, hW, hsame.mono (by decide) (by decide)⟩
          · show Steps p.tables e below (T24.setTop (mkF m 137 #[.val (.long q1), .second, .val (.long q2), .second, .val (.long q3), .second, .val (.int p4), .val (.long (q1 &&& (9223372036854775807 : Int64))), .second, .val (.long (q2 &&& (9223372036854775807 : Int64))), .second, .val (.int (p4 &&& (3 : Int32))), .val (.long ((q1 &&& (9223372036854775807 : Int64)) - (q2 &&& (9223372036854775807 : Int64)))), .second, .val (.ref b2), .val (.int (own_f4 ((q1 &&& (9223372036854775807 : Int64)) - (q2 &&& (9223372036854775807 : Int64))) (q1 &&& (9223372036854775807 : Int64)) ((0 : Int64) + (q2 &&& (9223372036854775807 : Int64))))), .val (.int (own_f5 (q1 &&& (9223372036854775807 : Int64)) (q2 &&& (9223372036854775807 : Int64)) ((q1 &&& (9223372036854775807 : Int64)) - (q2 &&& (9223372036854775807 : Int64)))))] [(.int (lcmpW (q1 &&& (9223372036854775807 : Int64)) (q1 &&& (9223372036854775807 : Int64))))])) _
            refine XS.ifNo X24.here hx rfl (hb hby at_137) rfl ((if0 _ _).trans (teq hc4).2) ?_
            show Steps p.tables e below (T24.setTop (mkF m 140 #[.val (.long q1), .second, .val (.long q2), .second, .val (.long q3), .second, .val (.int p4), .val (.long (q1 &&& (9223372036854775807 : Int64))), .second, .val (.long (q2 &&& (9223372036854775807 : Int64))), .second, .val (.int (p4 &&& (3 : Int32))), .val (.long ((q1 &&& (9223372036854775807 : Int64)) - (q2 &&& (9223372036854775807 : Int64)))), .second, .val (.ref b2), .val (.int (own_f4 ((q1 &&& (9223372036854775807 : Int64)) - (q2 &&& (9223372036854775807 : Int64))) (q1 &&& (9223372036854775807 : Int64)) ((0 : Int64) + (q2 &&& (9223372036854775807 : Int64))))), .val (.int (own_f5 (q1 &&& (9223372036854775807 : Int64)) (q2 &&& (9223372036854775807 : Int64)) ((q1 &&& (9223372036854775807 : Int64)) - (q2 &&& (9223372036854775807 : Int64)))))] [])) _
            refine XS.iconst X24.here hx rfl (hb hby at_140) ?_
            show Steps p.tables e below (T24.setTop (mkF m 141 #[.val (.long q1), .second, .val (.long q2), .second, .val (.long q3), .second, .val (.int p4), .val (.long (q1 &&& (9223372036854775807 : Int64))), .second, .val (.long (q2 &&& (9223372036854775807 : Int64))), .second, .val (.int (p4 &&& (3 : Int32))), .val (.long ((q1 &&& (9223372036854775807 : Int64)) - (q2 &&& (9223372036854775807 : Int64)))), .second, .val (.ref b2), .val (.int (own_f4 ((q1 &&& (9223372036854775807 : Int64)) - (q2 &&& (9223372036854775807 : Int64))) (q1 &&& (9223372036854775807 : Int64)) ((0 : Int64) + (q2 &&& (9223372036854775807 : Int64))))), .val (.int (own_f5 (q1 &&& (9223372036854775807 : Int64)) (q2 &&& (9223372036854775807 : Int64)) ((q1 &&& (9223372036854775807 : Int64)) - (q2 &&& (9223372036854775807 : Int64)))))] [(.int (1 : Int32))])) _
            refine XS.goto X24.here hx rfl (pc0 := 141) (pc' := 145) rfl (hb hby at_141) (by decide) (by decide) ?_
            show Steps p.tables e below (T24.setTop (mkF m 145 #[.val (.long q1), .second, .val (.long q2), .second, .val (.long q3), .second, .val (.int p4), .val (.long (q1 &&& (9223372036854775807 : Int64))), .second, .val (.long (q2 &&& (9223372036854775807 : Int64))), .second, .val (.int (p4 &&& (3 : Int32))), .val (.long ((q1 &&& (9223372036854775807 : Int64)) - (q2 &&& (9223372036854775807 : Int64)))), .second, .val (.ref b2), .val (.int (own_f4 ((q1 &&& (9223372036854775807 : Int64)) - (q2 &&& (9223372036854775807 : Int64))) (q1 &&& (9223372036854775807 : Int64)) ((0 : Int64) + (q2 &&& (9223372036854775807 : Int64))))), .val (.int (own_f5 (q1 &&& (9223372036854775807 : Int64)) (q2 &&& (9223372036854775807 : Int64)) ((q1 &&& (9223372036854775807 : Int64)) - (q2 &&& (9223372036854775807 : Int64)))))] [(.int (1 : Int32))])) _
            exact retN X24 hx (t := .boolean) Bd.returns (by simp) (hb hby at_145) hr
          · show own_Q0 Z q1 q2 q3 p4 h0 n0 _ T24.heap _
            rw [e24]
            exact ⟨(by rw [own_f0, if_pos hc1, if_pos hc2, if_pos hc3, if_pos hc4]), N25⟩
        ·
          obtain ⟨fs, hr, hrun, hended, hW, hsame⟩ := X24.leave (v := some (.int (0 : Int32))) (fun h => by rw [Bd.returns] at h; cases h)
          refine ⟨_, _, k26 _ ?_, hrun, hended, _, _, rfl, ?_, ⟨_, rfl⟩, hW, hsame.mono (by decide) (by decide)⟩
          · show Steps p.tables e below (T24.setTop (mkF m 137 #[.val (.long q1), .second, .val (.long q2), .second, .val (.long q3), .second, .val (.int p4), .val (.long (q1 &&& (9223372036854775807 : Int64))), .second, .val (.long (q2 &&& (9223372036854775807 : Int64))), .second, .val (.int (p4 &&& (3 : Int32))), .val (.long ((q1 &&& (9223372036854775807 : Int64)) - (q2 &&& (9223372036854775807 : Int64)))), .second, .val (.ref b2), .val (.int (own_f4 ((q1 &&& (9223372036854775807 : Int64)) - (q2 &&& (9223372036854775807 : Int64))) (q1 &&& (9223372036854775807 : Int64)) ((0 : Int64) + (q2 &&& (9223372036854775807 : Int64))))), .val (.int (own_f5 (q1 &&& (9223372036854775807 : Int64)) (q2 &&& (9223372036854775807 : Int64)) ((q1 &&& (9223372036854775807 : Int64)) - (q2 &&& (9223372036854775807 : Int64)))))] [(.int (lcmpW (q1 &&& (9223372036854775807 : Int64)) (q1 &&& (9223372036854775807 : Int64))))])) _
            refine XS.ifYes X24.here hx rfl (pc0 := 137) (pc' := 144) rfl (hb hby at_137) rfl ((if0 _ _).trans (feq hc4).2) (by decide) (by decide) ?_
            show Steps p.tables e below (T24.setTop (mkF m 144 #[.val (.long q1), .second, .val (.long q2), .second, .val (.long q3), .second, .val (.int p4), .val (.long (q1 &&& (9223372036854775807 : Int64))), .second, .val (.long (q2 &&& (9223372036854775807 : Int64))), .second, .val (.int (p4 &&& (3 : Int32))), .val (.long ((q1 &&& (9223372036854775807 : Int64)) - (q2 &&& (9223372036854775807 : Int64)))), .second, .val (.ref b2), .val (.int (own_f4 ((q1 &&& (9223372036854775807 : Int64)) - (q2 &&& (9223372036854775807 : Int64))) (q1 &&& (9223372036854775807 : Int64)) ((0 : Int64) + (q2 &&& (9223372036854775807 : Int64))))), .val (.int (own_f5 (q1 &&& (9223372036854775807 : Int64)) (q2 &&& (9223372036854775807 : Int64)) ((q1 &&& (9223372036854775807 : Int64)) - (q2 &&& (9223372036854775807 : Int64)))))] [])) _
            refine XS.iconst X24.here hx rfl (hb hby at_144) ?_
            show Steps p.tables e below (T24.setTop (mkF m 145 #[.val (.long q1), .second, .val (.long q2), .second, .val (.long q3), .second, .val (.int p4), .val (.long (q1 &&& (9223372036854775807 : Int64))), .second, .val (.long (q2 &&& (9223372036854775807 : Int64))), .second, .val (.int (p4 &&& (3 : Int32))), .val (.long ((q1 &&& (9223372036854775807 : Int64)) - (q2 &&& (9223372036854775807 : Int64)))), .second, .val (.ref b2), .val (.int (own_f4 ((q1 &&& (9223372036854775807 : Int64)) - (q2 &&& (9223372036854775807 : Int64))) (q1 &&& (9223372036854775807 : Int64)) ((0 : Int64) + (q2 &&& (9223372036854775807 : Int64))))), .val (.int (own_f5 (q1 &&& (9223372036854775807 : Int64)) (q2 &&& (9223372036854775807 : Int64)) ((q1 &&& (9223372036854775807 : Int64)) - (q2 &&& (9223372036854775807 : Int64)))))] [(.int (0 : Int32))])) _
            exact retN X24 hx (t := .boolean) Bd.returns (by simp) (hb hby at_145) hr
          · show own_Q0 Z q1 q2 q3 p4 h0 n0 _ T24.heap _
            rw [e24]
            exact ⟨(by rw [own_f0, if_pos hc1, if_pos hc2, if_pos hc3, if_neg hc4]), N25⟩
      ·
        obtain ⟨fs, hr, hrun, hended, hW, hsame⟩ := X21.leave (v := some (.int (0 : Int32))) (fun h => by rw [Bd.returns] at h; cases h)
        refine ⟨_, _, k23 _ ?_, hrun, hended, _, _, rfl, ?_, ⟨_, rfl⟩, hW, hsame.mono (by decide) (by decide)⟩
        · show Steps p.tables e below (T21.setTop (mkF m 126 #[.val (.long q1), .second, .val (.long q2), .second, .val (.long q3), .second, .val (.int p4), .val (.long (q1 &&& (9223372036854775807 : Int64))), .second, .val (.long (q2 &&& (9223372036854775807 : Int64))), .second, .val (.int (p4 &&& (3 : Int32))), .val (.long ((q1 &&& (9223372036854775807 : Int64)) - (q2 &&& (9223372036854775807 : Int64)))), .second, .val (.ref b2), .val (.int (own_f4 ((q1 &&& (9223372036854775807 : Int64)) - (q2 &&& (9223372036854775807 : Int64))) (q1 &&& (9223372036854775807 : Int64)) ((0 : Int64) + (q2 &&& (9223372036854775807 : Int64))))), .val (.int (own_f5 (q1 &&& (9223372036854775807 : Int64)) (q2 &&& (9223372036854775807 : Int64)) ((q1 &&& (9223372036854775807 : Int64)) - (q2 &&& (9223372036854775807 : Int64)))))] [(.int (lcmpW ((0 : Int64) + (q2 &&& (9223372036854775807 : Int64))) (q2 &&& (9223372036854775807 : Int64))))])) _
          refine XS.ifYes X21.here hx rfl (pc0 := 126) (pc' := 144) rfl (hb hby at_126) rfl ((if0 _ _).trans (feq hc3).2) (by decide) (by decide) ?_
          show Steps p.tables e below (T21.setTop (mkF m 144 #[.val (.long q1), .second, .val (.long q2), .second, .val (.long q3), .second, .val (.int p4), .val (.long (q1 &&& (9223372036854775807 : Int64))), .second, .val (.long (q2 &&& (9223372036854775807 : Int64))), .second, .val (.int (p4 &&& (3 : Int32))), .val (.long ((q1 &&& (9223372036854775807 : Int64)) - (q2 &&& (9223372036854775807 : Int64)))), .second, .val (.ref b2), .val (.int (own_f4 ((q1 &&& (9223372036854775807 : Int64)) - (q2 &&& (9223372036854775807 : Int64))) (q1 &&& (9223372036854775807 : Int64)) ((0 : Int64) + (q2 &&& (9223372036854775807 : Int64))))), .val (.int (own_f5 (q1 &&& (9223372036854775807 : Int64)) (q2 &&& (9223372036854775807 : Int64)) ((q1 &&& (9223372036854775807 : Int64)) - (q2 &&& (9223372036854775807 : Int64)))))] [])) _
          refine XS.iconst X21.here hx rfl (hb hby at_144) ?_
          show Steps p.tables e below (T21.setTop (mkF m 145 #[.val (.long q1), .second, .val (.long q2), .second, .val (.long q3), .second, .val (.int p4), .val (.long (q1 &&& (9223372036854775807 : Int64))), .second, .val (.long (q2 &&& (9223372036854775807 : Int64))), .second, .val (.int (p4 &&& (3 : Int32))), .val (.long ((q1 &&& (9223372036854775807 : Int64)) - (q2 &&& (9223372036854775807 : Int64)))), .second, .val (.ref b2), .val (.int (own_f4 ((q1 &&& (9223372036854775807 : Int64)) - (q2 &&& (9223372036854775807 : Int64))) (q1 &&& (9223372036854775807 : Int64)) ((0 : Int64) + (q2 &&& (9223372036854775807 : Int64))))), .val (.int (own_f5 (q1 &&& (9223372036854775807 : Int64)) (q2 &&& (9223372036854775807 : Int64)) ((q1 &&& (9223372036854775807 : Int64)) - (q2 &&& (9223372036854775807 : Int64)))))] [(.int (0 : Int32))])) _
          exact retN X21 hx (t := .boolean) Bd.returns (by simp) (hb hby at_145) hr
        · show own_Q0 Z q1 q2 q3 p4 h0 n0 _ T21.heap _
          rw [e21]
          exact ⟨(by rw [own_f0, if_pos hc1, if_pos hc2, if_neg hc3]), N22⟩
    ·
      obtain ⟨fs, hr, hrun, hended, hW, hsame⟩ := X18.leave (v := some (.int (0 : Int32))) (fun h => by rw [Bd.returns] at h; cases h)
      refine ⟨_, _, k20 _ ?_, hrun, hended, _, _, rfl, ?_, ⟨_, rfl⟩, hW, hsame.mono (by decide) (by decide)⟩
      · show Steps p.tables e below (T18.setTop (mkF m 115 #[.val (.long q1), .second, .val (.long q2), .second, .val (.long q3), .second, .val (.int p4), .val (.long (q1 &&& (9223372036854775807 : Int64))), .second, .val (.long (q2 &&& (9223372036854775807 : Int64))), .second, .val (.int (p4 &&& (3 : Int32))), .val (.long ((q1 &&& (9223372036854775807 : Int64)) - (q2 &&& (9223372036854775807 : Int64)))), .second, .val (.ref b2), .val (.int (own_f4 ((q1 &&& (9223372036854775807 : Int64)) - (q2 &&& (9223372036854775807 : Int64))) (q1 &&& (9223372036854775807 : Int64)) ((0 : Int64) + (q2 &&& (9223372036854775807 : Int64))))), .val (.int (own_f5 (q1 &&& (9223372036854775807 : Int64)) (q2 &&& (9223372036854775807 : Int64)) ((q1 &&& (9223372036854775807 : Int64)) - (q2 &&& (9223372036854775807 : Int64)))))] [(.int (own_f5 (q1 &&& (9223372036854775807 : Int64)) (q2 &&& (9223372036854775807 : Int64)) ((q1 &&& (9223372036854775807 : Int64)) - (q2 &&& (9223372036854775807 : Int64))))), (.int (own_f4 ((q1 &&& (9223372036854775807 : Int64)) - (q2 &&& (9223372036854775807 : Int64))) (q1 &&& (9223372036854775807 : Int64)) ((0 : Int64) + (q2 &&& (9223372036854775807 : Int64)))))])) _
        refine XS.icmpYes X18.here hx rfl (pc0 := 115) (pc' := 144) rfl (hb hby at_115) rfl (feq hc2).2 (by decide) (by decide) ?_
        show Steps p.tables e below (T18.setTop (mkF m 144 #[.val (.long q1), .second, .val (.long q2), .second, .val (.long q3), .second, .val (.int p4), .val (.long (q1 &&& (9223372036854775807 : Int64))), .second, .val (.long (q2 &&& (9223372036854775807 : Int64))), .second, .val (.int (p4 &&& (3 : Int32))), .val (.long ((q1 &&& (9223372036854775807 : Int64)) - (q2 &&& (9223372036854775807 : Int64)))), .second, .val (.ref b2), .val (.int (own_f4 ((q1 &&& (9223372036854775807 : Int64)) - (q2 &&& (9223372036854775807 : Int64))) (q1 &&& (9223372036854775807 : Int64)) ((0 : Int64) + (q2 &&& (9223372036854775807 : Int64))))), .val (.int (own_f5 (q1 &&& (9223372036854775807 : Int64)) (q2 &&& (9223372036854775807 : Int64)) ((q1 &&& (9223372036854775807 : Int64)) - (q2 &&& (9223372036854775807 : Int64)))))] [])) _
        refine XS.iconst X18.here hx rfl (hb hby at_144) ?_
        show Steps p.tables e below (T18.setTop (mkF m 145 #[.val (.long q1), .second, .val (.long q2), .second, .val (.long q3), .second, .val (.int p4), .val (.long (q1 &&& (9223372036854775807 : Int64))), .second, .val (.long (q2 &&& (9223372036854775807 : Int64))), .second, .val (.int (p4 &&& (3 : Int32))), .val (.long ((q1 &&& (9223372036854775807 : Int64)) - (q2 &&& (9223372036854775807 : Int64)))), .second, .val (.ref b2), .val (.int (own_f4 ((q1 &&& (9223372036854775807 : Int64)) - (q2 &&& (9223372036854775807 : Int64))) (q1 &&& (9223372036854775807 : Int64)) ((0 : Int64) + (q2 &&& (9223372036854775807 : Int64))))), .val (.int (own_f5 (q1 &&& (9223372036854775807 : Int64)) (q2 &&& (9223372036854775807 : Int64)) ((q1 &&& (9223372036854775807 : Int64)) - (q2 &&& (9223372036854775807 : Int64)))))] [(.int (0 : Int32))])) _
        exact retN X18 hx (t := .boolean) Bd.returns (by simp) (hb hby at_145) hr
      · show own_Q0 Z q1 q2 q3 p4 h0 n0 _ T18.heap _
        rw [e18]
        exact ⟨(by rw [own_f0, if_pos hc1, if_neg hc2]), N19⟩
  ·
    have k27 : ∀ t, Steps p.tables e below (s₁.setTop (mkF m 43 #[.val (.long q1), .second, .val (.long q2), .second, .val (.long q3), .second, .val (.int p4), .val (.long (q1 &&& (9223372036854775807 : Int64))), .second, .val (.long (q2 &&& (9223372036854775807 : Int64))), .second, .val (.int (p4 &&& (3 : Int32))), .val (.long q3), .second, .unset, .unset, .unset] [(.int (2 : Int32)), (.int (p4 &&& (3 : Int32)))])) t → Steps p.tables e below (s₁.setTop (entryFrame m #[(.long q1), (.long q2), (.long q3), (.int p4)] maxLocals)) t := by
      intro t kt
      refine k1 t ?_
      show Steps p.tables e below (s₁.setTop (mkF m 27 #[.val (.long q1), .second, .val (.long q2), .second, .val (.long q3), .second, .val (.int p4), .val (.long (q1 &&& (9223372036854775807 : Int64))), .second, .val (.long (q2 &&& (9223372036854775807 : Int64))), .second, .val (.int (p4 &&& (3 : Int32))), .val (.long q3), .second, .unset, .unset, .unset] [(.int (1 : Int32)), (.int (p4 &&& (3 : Int32)))])) _
      refine XS.icmpYes X0.here hx rfl (pc0 := 27) (pc' := 40) rfl (hb hby at_27) rfl (feq hc1).2 (by decide) (by decide) ?_
      show Steps p.tables e below (s₁.setTop (mkF m 40 #[.val (.long q1), .second, .val (.long q2), .second, .val (.long q3), .second, .val (.int p4), .val (.long (q1 &&& (9223372036854775807 : Int64))), .second, .val (.long (q2 &&& (9223372036854775807 : Int64))), .second, .val (.int (p4 &&& (3 : Int32))), .val (.long q3), .second, .unset, .unset, .unset] [])) _
      refine XS.iload X0.here hx rfl (hb hby at_40) rfl ?_
      show Steps p.tables e below (s₁.setTop (mkF m 42 #[.val (.long q1), .second, .val (.long q2), .second, .val (.long q3), .second, .val (.int p4), .val (.long (q1 &&& (9223372036854775807 : Int64))), .second, .val (.long (q2 &&& (9223372036854775807 : Int64))), .second, .val (.int (p4 &&& (3 : Int32))), .val (.long q3), .second, .unset, .unset, .unset] [(.int (p4 &&& (3 : Int32)))])) _
      refine XS.iconst X0.here hx rfl (hb hby at_42) ?_
      exact kt
    by_cases hc5 : (p4 &&& (3 : Int32)) = (2 : Int32)
    ·
      obtain ⟨T28, h28, X28, e28, E28, A28, D28, -, st28⟩ := newO X0 hx hZ hown (hw _ (List.mem_of_getElem? (i := 1) rfl)) (hw _ (List.mem_of_getElem? (i := 2) rfl)) (hw _ (List.mem_of_getElem? (i := 3) rfl)) e0 (g := (mkF m 73 #[.val (.long q1), .second, .val (.long q2), .second, .val (.long q3), .second, .val (.int p4), .val (.long (q1 &&& (9223372036854775807 : Int64))), .second, .val (.long (q2 &&& (9223372036854775807 : Int64))), .second, .val (.int (p4 &&& (3 : Int32))), .val (.long (((q1 &&& (9223372036854775807 : Int64)) - (q2 &&& (9223372036854775807 : Int64))) + (1 : Int64))), .second, .unset, .unset, .unset] [])) rfl (hb hby at_73) (by decide) (by decide)
      obtain ⟨b28, g28⟩ : ∃ z, z = h0.size := ⟨_, rfl⟩
      rw [← g28] at A28 D28 st28
      have g_b28 : n0 ≤ b28 := Nat.le_trans Z0 (Nat.le_of_eq g28.symm)
      have Z29 := Nat.le_trans Z0 E28.1
      have F_maxBytes_b28 : Fld Z h28 b28 "com/example/castd/castd/Room" "maxBytes" "J" (.long (0 : Int64)) := D28 (Or.inr (hw _ (List.mem_of_getElem? (i := 11) rfl))) (ty := .long) (by decide)
      have F_bytes_b28 : Fld Z h28 b28 "com/example/castd/castd/Room" "bytes" "J" (.long (0 : Int64)) := D28 (Or.inl (hw _ (List.mem_of_getElem? (i := 18) rfl))) (ty := .long) (by decide)
      obtain ⟨v30, _, ⟨T30, L30, k30, n30⟩, -, X30, ⟨Lc30, hQ30, l30, y30, z30⟩, st30⟩ := X28.specialBack hx (y := (⟨"com/example/castd/castd/Room", "<init>", "(J)V"⟩ : MethodName)) rfl hown (mvT hZ (hw _ (List.mem_of_getElem? (i := 4) rfl))) (mvT hZ (hw _ (List.mem_of_getElem? (i := 5) rfl))) (mvT hZ (hw _ (List.mem_of_getElem? (i := 6) rfl))) (by decide) (backOf (W := 1) (own_rm1 l Z a0 hw [] b28 (q1 &&& (9223372036854775807 : Int64)) (0 : Int64) (0 : Int64) h28 n0 Z29 A28 F_maxBytes_b28 g_b28 F_bytes_b28) hZ (hw _ (List.mem_of_getElem? (i := 6) rfl)) (hw _ (List.mem_of_getElem? (i := 3) rfl)) (by decide) (by decide)) (g := (mkF m 79 #[.val (.long q1), .second, .val (.long q2), .second, .val (.long q3), .second, .val (.int p4), .val (.long (q1 &&& (9223372036854775807 : Int64))), .second, .val (.long (q2 &&& (9223372036854775807 : Int64))), .second, .val (.int (p4 &&& (3 : Int32))), .val (.long (((q1 &&& (9223372036854775807 : Int64)) - (q2 &&& (9223372036854775807 : Int64))) + (1 : Int64))), .second, .unset, .unset, .unset] [(.long (q1 &&& (9223372036854775807 : Int64))), (.ref b28), (.ref b28)])) rfl (by rw [hml]; rfl) (Steps.refl _) (a := b28) (argsL := [(.long (q1 &&& (9223372036854775807 : Int64)))]) (rest := [(.ref b28)]) (lenOf own_pd63 rfl) rfl (by show 2 * 0 + _ ≤ _; exact Nat.le_of_eq rfl) (hb hby at_79) (fun _ _ => ⟨rfl, e28, (by decide : 1 + 0 ≤ _), (by decide : 2 + 0 ≤ _)⟩)
      dsimp only [Pt.U, Pt.locs, Pt.cells, Pt.slots] at X30 l30 y30 z30 st30 hQ30
      subst l30 y30 z30
      obtain ⟨rfl, N30q, K30, Q30_0, Q30_1, Q30_2⟩ := hQ30
      have f31 := A28.keep K30
      have Z34 := Nat.le_trans Z29 K30.1
      have N35 := Fr.app N0 N30q
      obtain ⟨cq36, kq36, q36a, q36b, q36c⟩ := isOf hZ rfl Q30_0
      obtain ⟨v36, _, ⟨T36, L36, k36, n36⟩, -, X36, ⟨Lc36, hQ36, l36, y36, z36⟩, st36⟩ := X30.virtualBack hx (y := (⟨"com/example/castd/castd/Room", "add", "(J)V"⟩ : MethodName)) (z := (⟨"com/example/castd/castd/Room", "add", "(J)V"⟩ : MethodName)) hown (mvT hZ (hw _ (List.mem_of_getElem? (i := 12) rfl))) (mvT hZ (hw _ (List.mem_of_getElem? (i := 13) rfl))) (notFace_of_selects (args := #[]) (mvT hZ (hw _ (List.mem_of_getElem? (i := 15) rfl)))) (mvT hZ (hw _ (List.mem_of_getElem? (i := 15) rfl))) (mvT hZ (hw _ (List.mem_of_getElem? (i := 14) rfl))) (by decide) (backOf (W := 0) (own_rm3 l Z a0 hw [] b28 (q2 &&& (9223372036854775807 : Int64)) (0 : Int64) (q1 &&& (9223372036854775807 : Int64)) T30.heap n0 Z34 Q30_2 Q30_0 g_b28 Q30_1) hZ (hw _ (List.mem_of_getElem? (i := 16) rfl)) (hw _ (List.mem_of_getElem? (i := 3) rfl)) (by decide) (by decide)) q36a q36c (g := (mkF m 88 #[.val (.long q1), .second, .val (.long q2), .second, .val (.long q3), .second, .val (.int p4), .val (.long (q1 &&& (9223372036854775807 : Int64))), .second, .val (.long (q2 &&& (9223372036854775807 : Int64))), .second, .val (.int (p4 &&& (3 : Int32))), .val (.long (((q1 &&& (9223372036854775807 : Int64)) - (q2 &&& (9223372036854775807 : Int64))) + (1 : Int64))), .second, .val (.ref b28), .unset, .unset] [(.long (q2 &&& (9223372036854775807 : Int64))), (.ref b28)])) rfl (by rw [hml]; rfl) (Steps.refl _) (argsL := [(.long (q2 &&& (9223372036854775807 : Int64)))]) (rest := []) (lenOf own_pd63 rfl) rfl (by show 2 * 0 + _ ≤ _; exact Nat.le_of_eq rfl) (hb hby at_88) (fun _ _ => ⟨rfl, rfl, (by decide : 1 + 0 ≤ _), (by decide : 2 + 0 ≤ _)⟩)
      dsimp only [Pt.U, Pt.locs, Pt.cells, Pt.slots] at X36 l36 y36 z36 st36 hQ36
      subst l36 y36 z36
      obtain ⟨rfl, N36q, K36, Q36_0, Q36_1, Q36_2⟩ := hQ36
      have f37 := Q30_0.keep K36
      have Z40 := Nat.le_trans Z34 K36.1
      have N41 := Fr.app N35 N36q
      obtain ⟨cq42, kq42, q42a, q42b, q42c⟩ := isOf hZ rfl Q36_0
      obtain ⟨v42, _, ⟨T42, L42, k42, n42⟩, -, X42, ⟨Lc42, hQ42, l42, y42, z42⟩, st42⟩ := X36.virtualBack hx (y := (⟨"com/example/castd/castd/Room", "fits", "(J)Z"⟩ : MethodName)) (z := (⟨"com/example/castd/castd/Room", "fits", "(J)Z"⟩ : MethodName)) hown (mvT hZ (hw _ (List.mem_of_getElem? (i := 19) rfl))) (mvT hZ (hw _ (List.mem_of_getElem? (i := 20) rfl))) (notFace_of_selects (args := #[]) (mvT hZ (hw _ (List.mem_of_getElem? (i := 22) rfl)))) (mvT hZ (hw _ (List.mem_of_getElem? (i := 22) rfl))) (mvT hZ (hw _ (List.mem_of_getElem? (i := 21) rfl))) (by decide) (backOf (W := 0) (own_rm4 l Z a0 hw [] b28 (((q1 &&& (9223372036854775807 : Int64)) - (q2 &&& (9223372036854775807 : Int64))) + (1 : Int64)) (q1 &&& (9223372036854775807 : Int64)) ((0 : Int64) + (q2 &&& (9223372036854775807 : Int64))) T36.heap n0 Z40 Q36_2 Q36_1) hZ (hw _ (List.mem_of_getElem? (i := 23) rfl)) (hw _ (List.mem_of_getElem? (i := 3) rfl)) (by decide) (by decide)) q42a q42c (g := (mkF m 95 #[.val (.long q1), .second, .val (.long q2), .second, .val (.long q3), .second, .val (.int p4), .val (.long (q1 &&& (9223372036854775807 : Int64))), .second, .val (.long (q2 &&& (9223372036854775807 : Int64))), .second, .val (.int (p4 &&& (3 : Int32))), .val (.long (((q1 &&& (9223372036854775807 : Int64)) - (q2 &&& (9223372036854775807 : Int64))) + (1 : Int64))), .second, .val (.ref b28), .unset, .unset] [(.long (((q1 &&& (9223372036854775807 : Int64)) - (q2 &&& (9223372036854775807 : Int64))) + (1 : Int64))), (.ref b28)])) rfl (by rw [hml]; rfl) (Steps.refl _) (argsL := [(.long (((q1 &&& (9223372036854775807 : Int64)) - (q2 &&& (9223372036854775807 : Int64))) + (1 : Int64)))]) (rest := []) (lenOf own_pd64 rfl) rfl (by show 2 * 0 + _ ≤ _; exact Nat.le_of_eq rfl) (hb hby at_95) (fun _ _ => ⟨rfl, rfl, (by decide : 1 + 0 ≤ _), (by decide : 2 + 0 ≤ _)⟩)
      dsimp only [Pt.U, Pt.locs, Pt.cells, Pt.slots] at X42 l42 y42 z42 st42 hQ42
      subst l42 y42 z42
      obtain ⟨rfl, N42q, e42⟩ := hQ42
      have N43 := Fr.app N41 N42q
      obtain ⟨v44, _, ⟨T44, L44, k44, n44⟩, -, X44, ⟨Lc44, hQ44, l44, y44, z44⟩, st44⟩ := Jvm.LawKit.callS X42 hx (y := (⟨"com/example/castd/castd/RoomFitsPinLaw", "expectedFits", "(JJJ)Z"⟩ : MethodName)) hown (mvT hZ (hw _ (List.mem_of_getElem? (i := 24) rfl))) (mvT hZ (hw _ (List.mem_of_getElem? (i := 25) rfl))) (mvT hZ (hw _ (List.mem_of_getElem? (i := 26) rfl))) (mvT hZ (hw _ (List.mem_of_getElem? (i := 27) rfl))) (by decide) (backOf (W := 0) (own_rm5 l Z a0 hw [] (q1 &&& (9223372036854775807 : Int64)) (q2 &&& (9223372036854775807 : Int64)) (((q1 &&& (9223372036854775807 : Int64)) - (q2 &&& (9223372036854775807 : Int64))) + (1 : Int64)) T36.heap n0 Z40) hZ (hw _ (List.mem_of_getElem? (i := 27) rfl)) (hw _ (List.mem_of_getElem? (i := 26) rfl)) (by decide) (by decide)) (g := (mkF m 106 #[.val (.long q1), .second, .val (.long q2), .second, .val (.long q3), .second, .val (.int p4), .val (.long (q1 &&& (9223372036854775807 : Int64))), .second, .val (.long (q2 &&& (9223372036854775807 : Int64))), .second, .val (.int (p4 &&& (3 : Int32))), .val (.long (((q1 &&& (9223372036854775807 : Int64)) - (q2 &&& (9223372036854775807 : Int64))) + (1 : Int64))), .second, .val (.ref b28), .val (.int (own_f4 (((q1 &&& (9223372036854775807 : Int64)) - (q2 &&& (9223372036854775807 : Int64))) + (1 : Int64)) (q1 &&& (9223372036854775807 : Int64)) ((0 : Int64) + (q2 &&& (9223372036854775807 : Int64))))), .unset] [(.long (((q1 &&& (9223372036854775807 : Int64)) - (q2 &&& (9223372036854775807 : Int64))) + (1 : Int64))), (.long (q2 &&& (9223372036854775807 : Int64))), (.long (q1 &&& (9223372036854775807 : Int64)))])) rfl (by rw [hml]; rfl) (argsL := [(.long (q1 &&& (9223372036854775807 : Int64))), (.long (q2 &&& (9223372036854775807 : Int64))), (.long (((q1 &&& (9223372036854775807 : Int64)) - (q2 &&& (9223372036854775807 : Int64))) + (1 : Int64)))]) (rest := []) (lenOf own_pd65 rfl) rfl (by show 2 * 0 + _ ≤ _; exact Nat.le_of_eq rfl) (hb hby at_106) (fun _ _ => ⟨rfl, e42, (by decide : 1 + 0 ≤ _), (by decide : 2 + 0 ≤ _)⟩)
      dsimp only [Pt.U, Pt.locs, Pt.cells, Pt.slots] at X44 l44 y44 z44 st44 hQ44
      subst l44 y44 z44
      obtain ⟨rfl, N44q, e44⟩ := hQ44
      have N45 := Fr.app N43 N44q
      have k46 : ∀ t, Steps p.tables e below (T44.setTop (mkF m 115 #[.val (.long q1), .second, .val (.long q2), .second, .val (.long q3), .second, .val (.int p4), .val (.long (q1 &&& (9223372036854775807 : Int64))), .second, .val (.long (q2 &&& (9223372036854775807 : Int64))), .second, .val (.int (p4 &&& (3 : Int32))), .val (.long (((q1 &&& (9223372036854775807 : Int64)) - (q2 &&& (9223372036854775807 : Int64))) + (1 : Int64))), .second, .val (.ref b28), .val (.int (own_f4 (((q1 &&& (9223372036854775807 : Int64)) - (q2 &&& (9223372036854775807 : Int64))) + (1 : Int64)) (q1 &&& (9223372036854775807 : Int64)) ((0 : Int64) + (q2 &&& (9223372036854775807 : Int64))))), .val (.int (own_f5 (q1 &&& (9223372036854775807 : Int64)) (q2 &&& (9223372036854775807 : Int64)) (((q1 &&& (9223372036854775807 : Int64)) - (q2 &&& (9223372036854775807 : Int64))) + (1 : Int64))))] [(.int (own_f5 (q1 &&& (9223372036854775807 : Int64)) (q2 &&& (9223372036854775807 : Int64)) (((q1 &&& (9223372036854775807 : Int64)) - (q2 &&& (9223372036854775807 : Int64))) + (1 : Int64)))), (.int (own_f4 (((q1 &&& (9223372036854775807 : Int64)) - (q2 &&& (9223372036854775807 : Int64))) + (1 : Int64)) (q1 &&& (9223372036854775807 : Int64)) ((0 : Int64) + (q2 &&& (9223372036854775807 : Int64)))))])) t → Steps p.tables e below (s₁.setTop (entryFrame m #[(.long q1), (.long q2), (.long q3), (.int p4)] maxLocals)) t := by
        intro t kt
        refine k27 t ?_
        show Steps p.tables e below (s₁.setTop (mkF m 43 #[.val (.long q1), .second, .val (.long q2), .second, .val (.long q3), .second, .val (.int p4), .val (.long (q1 &&& (9223372036854775807 : Int64))), .second, .val (.long (q2 &&& (9223372036854775807 : Int64))), .second, .val (.int (p4 &&& (3 : Int32))), .val (.long q3), .second, .unset, .unset, .unset] [(.int (2 : Int32)), (.int (p4 &&& (3 : Int32)))])) _
        refine XS.icmpNo X0.here hx rfl (hb hby at_43) rfl (teq hc5).2 ?_
        show Steps p.tables e below (s₁.setTop (mkF m 46 #[.val (.long q1), .second, .val (.long q2), .second, .val (.long q3), .second, .val (.int p4), .val (.long (q1 &&& (9223372036854775807 : Int64))), .second, .val (.long (q2 &&& (9223372036854775807 : Int64))), .second, .val (.int (p4 &&& (3 : Int32))), .val (.long q3), .second, .unset, .unset, .unset] [])) _
        refine XS.lload X0.here hx rfl (hb hby at_46) rfl ?_
        show Steps p.tables e below (s₁.setTop (mkF m 48 #[.val (.long q1), .second, .val (.long q2), .second, .val (.long q3), .second, .val (.int p4), .val (.long (q1 &&& (9223372036854775807 : Int64))), .second, .val (.long (q2 &&& (9223372036854775807 : Int64))), .second, .val (.int (p4 &&& (3 : Int32))), .val (.long q3), .second, .unset, .unset, .unset] [(.long (q1 &&& (9223372036854775807 : Int64)))])) _
        refine XS.lload X0.here hx rfl (hb hby at_48) rfl ?_
        show Steps p.tables e below (s₁.setTop (mkF m 50 #[.val (.long q1), .second, .val (.long q2), .second, .val (.long q3), .second, .val (.int p4), .val (.long (q1 &&& (9223372036854775807 : Int64))), .second, .val (.long (q2 &&& (9223372036854775807 : Int64))), .second, .val (.int (p4 &&& (3 : Int32))), .val (.long q3), .second, .unset, .unset, .unset] [(.long (q2 &&& (9223372036854775807 : Int64))), (.long (q1 &&& (9223372036854775807 : Int64)))])) _
        refine XS.lsub X0.here hx rfl (hb hby at_50) rfl ?_
        show Steps p.tables e below (s₁.setTop (mkF m 51 #[.val (.long q1), .second, .val (.long q2), .second, .val (.long q3), .second, .val (.int p4), .val (.long (q1 &&& (9223372036854775807 : Int64))), .second, .val (.long (q2 &&& (9223372036854775807 : Int64))), .second, .val (.int (p4 &&& (3 : Int32))), .val (.long q3), .second, .unset, .unset, .unset] [(.long ((q1 &&& (9223372036854775807 : Int64)) - (q2 &&& (9223372036854775807 : Int64))))])) _
        refine XS.lconst X0.here hx rfl (hb hby at_51) ?_
        show Steps p.tables e below (s₁.setTop (mkF m 52 #[.val (.long q1), .second, .val (.long q2), .second, .val (.long q3), .second, .val (.int p4), .val (.long (q1 &&& (9223372036854775807 : Int64))), .second, .val (.long (q2 &&& (9223372036854775807 : Int64))), .second, .val (.int (p4 &&& (3 : Int32))), .val (.long q3), .second, .unset, .unset, .unset] [(.long (1 : Int64)), (.long ((q1 &&& (9223372036854775807 : Int64)) - (q2 &&& (9223372036854775807 : Int64))))])) _
        refine XS.ladd X0.here hx rfl (hb hby at_52) rfl ?_
        show Steps p.tables e below (s₁.setTop (mkF m 53 #[.val (.long q1), .second, .val (.long q2), .second, .val (.long q3), .second, .val (.int p4), .val (.long (q1 &&& (9223372036854775807 : Int64))), .second, .val (.long (q2 &&& (9223372036854775807 : Int64))), .second, .val (.int (p4 &&& (3 : Int32))), .val (.long q3), .second, .unset, .unset, .unset] [(.long (((q1 &&& (9223372036854775807 : Int64)) - (q2 &&& (9223372036854775807 : Int64))) + (1 : Int64)))])) _
        refine XS.lstore X0.here hx rfl (hb hby at_53) rfl (l' := #[.val (.long q1), .second, .val (.long q2), .second, .val (.long q3), .second, .val (.int p4), .val (.long (q1 &&& (9223372036854775807 : Int64))), .second, .val (.long (q2 &&& (9223372036854775807 : Int64))), .second, .val (.int (p4 &&& (3 : Int32))), .val (.long (((q1 &&& (9223372036854775807 : Int64)) - (q2 &&& (9223372036854775807 : Int64))) + (1 : Int64))), .second, .unset, .unset, .unset]) rfl ?_
        show Steps p.tables e below (s₁.setTop (mkF m 55 #[.val (.long q1), .second, .val (.long q2), .second, .val (.long q3), .second, .val (.int p4), .val (.long (q1 &&& (9223372036854775807 : Int64))), .second, .val (.long (q2 &&& (9223372036854775807 : Int64))), .second, .val (.int (p4 &&& (3 : Int32))), .val (.long (((q1 &&& (9223372036854775807 : Int64)) - (q2 &&& (9223372036854775807 : Int64))) + (1 : Int64))), .second, .unset, .unset, .unset] [])) _
        refine XS.goto X0.here hx rfl (pc0 := 55) (pc' := 73) rfl (hb hby at_55) (by decide) (by decide) ?_
        show Steps p.tables e below (s₁.setTop (mkF m 73 #[.val (.long q1), .second, .val (.long q2), .second, .val (.long q3), .second, .val (.int p4), .val (.long (q1 &&& (9223372036854775807 : Int64))), .second, .val (.long (q2 &&& (9223372036854775807 : Int64))), .second, .val (.int (p4 &&& (3 : Int32))), .val (.long (((q1 &&& (9223372036854775807 : Int64)) - (q2 &&& (9223372036854775807 : Int64))) + (1 : Int64))), .second, .unset, .unset, .unset] [])) _
        refine st28 _ ?_
        show Steps p.tables e below (T28.setTop (mkF m 76 #[.val (.long q1), .second, .val (.long q2), .second, .val (.long q3), .second, .val (.int p4), .val (.long (q1 &&& (9223372036854775807 : Int64))), .second, .val (.long (q2 &&& (9223372036854775807 : Int64))), .second, .val (.int (p4 &&& (3 : Int32))), .val (.long (((q1 &&& (9223372036854775807 : Int64)) - (q2 &&& (9223372036854775807 : Int64))) + (1 : Int64))), .second, .unset, .unset, .unset] [(.ref b28)])) _
        refine XS.dup X28.here hx rfl (hb hby at_76) rfl rfl ?_
        show Steps p.tables e below (T28.setTop (mkF m 77 #[.val (.long q1), .second, .val (.long q2), .second, .val (.long q3), .second, .val (.int p4), .val (.long (q1 &&& (9223372036854775807 : Int64))), .second, .val (.long (q2 &&& (9223372036854775807 : Int64))), .second, .val (.int (p4 &&& (3 : Int32))), .val (.long (((q1 &&& (9223372036854775807 : Int64)) - (q2 &&& (9223372036854775807 : Int64))) + (1 : Int64))), .second, .unset, .unset, .unset] [(.ref b28), (.ref b28)])) _
        refine XS.lload X28.here hx rfl (hb hby at_77) rfl ?_
        show Steps p.tables e below (T28.setTop (mkF m 79 #[.val (.long q1), .second, .val (.long q2), .second, .val (.long q3), .second, .val (.int p4), .val (.long (q1 &&& (9223372036854775807 : Int64))), .second, .val (.long (q2 &&& (9223372036854775807 : Int64))), .second, .val (.int (p4 &&& (3 : Int32))), .val (.long (((q1 &&& (9223372036854775807 : Int64)) - (q2 &&& (9223372036854775807 : Int64))) + (1 : Int64))), .second, .unset, .unset, .unset] [(.long (q1 &&& (9223372036854775807 : Int64))), (.ref b28), (.ref b28)])) _
        refine st30.trans ?_
        show Steps p.tables e below (T30.setTop (mkF m 82 #[.val (.long q1), .second, .val (.long q2), .second, .val (.long q3), .second, .val (.int p4), .val (.long (q1 &&& (9223372036854775807 : Int64))), .second, .val (.long (q2 &&& (9223372036854775807 : Int64))), .second, .val (.int (p4 &&& (3 : Int32))), .val (.long (((q1 &&& (9223372036854775807 : Int64)) - (q2 &&& (9223372036854775807 : Int64))) + (1 : Int64))), .second, .unset, .unset, .unset] [(.ref b28)])) _
        refine XS.astore X30.here hx rfl (hb hby at_82) rfl rfl (l' := #[.val (.long q1), .second, .val (.long q2), .second, .val (.long q3), .second, .val (.int p4), .val (.long (q1 &&& (9223372036854775807 : Int64))), .second, .val (.long (q2 &&& (9223372036854775807 : Int64))), .second, .val (.int (p4 &&& (3 : Int32))), .val (.long (((q1 &&& (9223372036854775807 : Int64)) - (q2 &&& (9223372036854775807 : Int64))) + (1 : Int64))), .second, .val (.ref b28), .unset, .unset]) rfl ?_
        show Steps p.tables e below (T30.setTop (mkF m 84 #[.val (.long q1), .second, .val (.long q2), .second, .val (.long q3), .second, .val (.int p4), .val (.long (q1 &&& (9223372036854775807 : Int64))), .second, .val (.long (q2 &&& (9223372036854775807 : Int64))), .second, .val (.int (p4 &&& (3 : Int32))), .val (.long (((q1 &&& (9223372036854775807 : Int64)) - (q2 &&& (9223372036854775807 : Int64))) + (1 : Int64))), .second, .val (.ref b28), .unset, .unset] [])) _
        refine XS.aload X30.here hx rfl (hb hby at_84) rfl rfl ?_
        show Steps p.tables e below (T30.setTop (mkF m 86 #[.val (.long q1), .second, .val (.long q2), .second, .val (.long q3), .second, .val (.int p4), .val (.long (q1 &&& (9223372036854775807 : Int64))), .second, .val (.long (q2 &&& (9223372036854775807 : Int64))), .second, .val (.int (p4 &&& (3 : Int32))), .val (.long (((q1 &&& (9223372036854775807 : Int64)) - (q2 &&& (9223372036854775807 : Int64))) + (1 : Int64))), .second, .val (.ref b28), .unset, .unset] [(.ref b28)])) _
        refine XS.lload X30.here hx rfl (hb hby at_86) rfl ?_
        show Steps p.tables e below (T30.setTop (mkF m 88 #[.val (.long q1), .second, .val (.long q2), .second, .val (.long q3), .second, .val (.int p4), .val (.long (q1 &&& (9223372036854775807 : Int64))), .second, .val (.long (q2 &&& (9223372036854775807 : Int64))), .second, .val (.int (p4 &&& (3 : Int32))), .val (.long (((q1 &&& (9223372036854775807 : Int64)) - (q2 &&& (9223372036854775807 : Int64))) + (1 : Int64))), .second, .val (.ref b28), .unset, .unset] [(.long (q2 &&& (9223372036854775807 : Int64))), (.ref b28)])) _
        refine st36.trans ?_
        show Steps p.tables e below (T36.setTop (mkF m 91 #[.val (.long q1), .second, .val (.long q2), .second, .val (.long q3), .second, .val (.int p4), .val (.long (q1 &&& (9223372036854775807 : Int64))), .second, .val (.long (q2 &&& (9223372036854775807 : Int64))), .second, .val (.int (p4 &&& (3 : Int32))), .val (.long (((q1 &&& (9223372036854775807 : Int64)) - (q2 &&& (9223372036854775807 : Int64))) + (1 : Int64))), .second, .val (.ref b28), .unset, .unset] [])) _
        refine XS.aload X36.here hx rfl (hb hby at_91) rfl rfl ?_
        show Steps p.tables e below (T36.setTop (mkF m 93 #[.val (.long q1), .second, .val (.long q2), .second, .val (.long q3), .second, .val (.int p4), .val (.long (q1 &&& (9223372036854775807 : Int64))), .second, .val (.long (q2 &&& (9223372036854775807 : Int64))), .second, .val (.int (p4 &&& (3 : Int32))), .val (.long (((q1 &&& (9223372036854775807 : Int64)) - (q2 &&& (9223372036854775807 : Int64))) + (1 : Int64))), .second, .val (.ref b28), .unset, .unset] [(.ref b28)])) _
        refine XS.lload X36.here hx rfl (hb hby at_93) rfl ?_
        show Steps p.tables e below (T36.setTop (mkF m 95 #[.val (.long q1), .second, .val (.long q2), .second, .val (.long q3), .second, .val (.int p4), .val (.long (q1 &&& (9223372036854775807 : Int64))), .second, .val (.long (q2 &&& (9223372036854775807 : Int64))), .second, .val (.int (p4 &&& (3 : Int32))), .val (.long (((q1 &&& (9223372036854775807 : Int64)) - (q2 &&& (9223372036854775807 : Int64))) + (1 : Int64))), .second, .val (.ref b28), .unset, .unset] [(.long (((q1 &&& (9223372036854775807 : Int64)) - (q2 &&& (9223372036854775807 : Int64))) + (1 : Int64))), (.ref b28)])) _
        refine st42.trans ?_
        show Steps p.tables e below (T42.setTop (mkF m 98 #[.val (.long q1), .second, .val (.long q2), .second, .val (.long q3), .second, .val (.int p4), .val (.long (q1 &&& (9223372036854775807 : Int64))), .second, .val (.long (q2 &&& (9223372036854775807 : Int64))), .second, .val (.int (p4 &&& (3 : Int32))), .val (.long (((q1 &&& (9223372036854775807 : Int64)) - (q2 &&& (9223372036854775807 : Int64))) + (1 : Int64))), .second, .val (.ref b28), .unset, .unset] [(.int (own_f4 (((q1 &&& (9223372036854775807 : Int64)) - (q2 &&& (9223372036854775807 : Int64))) + (1 : Int64)) (q1 &&& (9223372036854775807 : Int64)) ((0 : Int64) + (q2 &&& (9223372036854775807 : Int64)))))])) _
        refine XS.istore X42.here hx rfl (hb hby at_98) rfl (l' := #[.val (.long q1), .second, .val (.long q2), .second, .val (.long q3), .second, .val (.int p4), .val (.long (q1 &&& (9223372036854775807 : Int64))), .second, .val (.long (q2 &&& (9223372036854775807 : Int64))), .second, .val (.int (p4 &&& (3 : Int32))), .val (.long (((q1 &&& (9223372036854775807 : Int64)) - (q2 &&& (9223372036854775807 : Int64))) + (1 : Int64))), .second, .val (.ref b28), .val (.int (own_f4 (((q1 &&& (9223372036854775807 : Int64)) - (q2 &&& (9223372036854775807 : Int64))) + (1 : Int64)) (q1 &&& (9223372036854775807 : Int64)) ((0 : Int64) + (q2 &&& (9223372036854775807 : Int64))))), .unset]) rfl ?_
        show Steps p.tables e below (T42.setTop (mkF m 100 #[.val (.long q1), .second, .val (.long q2), .second, .val (.long q3), .second, .val (.int p4), .val (.long (q1 &&& (9223372036854775807 : Int64))), .second, .val (.long (q2 &&& (9223372036854775807 : Int64))), .second, .val (.int (p4 &&& (3 : Int32))), .val (.long (((q1 &&& (9223372036854775807 : Int64)) - (q2 &&& (9223372036854775807 : Int64))) + (1 : Int64))), .second, .val (.ref b28), .val (.int (own_f4 (((q1 &&& (9223372036854775807 : Int64)) - (q2 &&& (9223372036854775807 : Int64))) + (1 : Int64)) (q1 &&& (9223372036854775807 : Int64)) ((0 : Int64) + (q2 &&& (9223372036854775807 : Int64))))), .unset] [])) _
        refine XS.lload X42.here hx rfl (hb hby at_100) rfl ?_
        show Steps p.tables e below (T42.setTop (mkF m 102 #[.val (.long q1), .second, .val (.long q2), .second, .val (.long q3), .second, .val (.int p4), .val (.long (q1 &&& (9223372036854775807 : Int64))), .second, .val (.long (q2 &&& (9223372036854775807 : Int64))), .second, .val (.int (p4 &&& (3 : Int32))), .val (.long (((q1 &&& (9223372036854775807 : Int64)) - (q2 &&& (9223372036854775807 : Int64))) + (1 : Int64))), .second, .val (.ref b28), .val (.int (own_f4 (((q1 &&& (9223372036854775807 : Int64)) - (q2 &&& (9223372036854775807 : Int64))) + (1 : Int64)) (q1 &&& (9223372036854775807 : Int64)) ((0 : Int64) + (q2 &&& (9223372036854775807 : Int64))))), .unset] [(.long (q1 &&& (9223372036854775807 : Int64)))])) _
        refine XS.lload X42.here hx rfl (hb hby at_102) rfl ?_
        show Steps p.tables e below (T42.setTop (mkF m 104 #[.val (.long q1), .second, .val (.long q2), .second, .val (.long q3), .second, .val (.int p4), .val (.long (q1 &&& (9223372036854775807 : Int64))), .second, .val (.long (q2 &&& (9223372036854775807 : Int64))), .second, .val (.int (p4 &&& (3 : Int32))), .val (.long (((q1 &&& (9223372036854775807 : Int64)) - (q2 &&& (9223372036854775807 : Int64))) + (1 : Int64))), .second, .val (.ref b28), .val (.int (own_f4 (((q1 &&& (9223372036854775807 : Int64)) - (q2 &&& (9223372036854775807 : Int64))) + (1 : Int64)) (q1 &&& (9223372036854775807 : Int64)) ((0 : Int64) + (q2 &&& (9223372036854775807 : Int64))))), .unset] [(.long (q2 &&& (9223372036854775807 : Int64))), (.long (q1 &&& (9223372036854775807 : Int64)))])) _
        refine XS.lload X42.here hx rfl (hb hby at_104) rfl ?_
        show Steps p.tables e below (T42.setTop (mkF m 106 #[.val (.long q1), .second, .val (.long q2), .second, .val (.long q3), .second, .val (.int p4), .val (.long (q1 &&& (9223372036854775807 : Int64))), .second, .val (.long (q2 &&& (9223372036854775807 : Int64))), .second, .val (.int (p4 &&& (3 : Int32))), .val (.long (((q1 &&& (9223372036854775807 : Int64)) - (q2 &&& (9223372036854775807 : Int64))) + (1 : Int64))), .second, .val (.ref b28), .val (.int (own_f4 (((q1 &&& (9223372036854775807 : Int64)) - (q2 &&& (9223372036854775807 : Int64))) + (1 : Int64)) (q1 &&& (9223372036854775807 : Int64)) ((0 : Int64) + (q2 &&& (9223372036854775807 : Int64))))), .unset] [(.long (((q1 &&& (9223372036854775807 : Int64)) - (q2 &&& (9223372036854775807 : Int64))) + (1 : Int64))), (.long (q2 &&& (9223372036854775807 : Int64))), (.long (q1 &&& (9223372036854775807 : Int64)))])) _
        refine st44 _ ?_
        show Steps p.tables e below (T44.setTop (mkF m 109 #[.val (.long q1), .second, .val (.long q2), .second, .val (.long q3), .second, .val (.int p4), .val (.long (q1 &&& (9223372036854775807 : Int64))), .second, .val (.long (q2 &&& (9223372036854775807 : Int64))), .second, .val (.int (p4 &&& (3 : Int32))), .val (.long (((q1 &&& (9223372036854775807 : Int64)) - (q2 &&& (9223372036854775807 : Int64))) + (1 : Int64))), .second, .val (.ref b28), .val (.int (own_f4 (((q1 &&& (9223372036854775807 : Int64)) - (q2 &&& (9223372036854775807 : Int64))) + (1 : Int64)) (q1 &&& (9223372036854775807 : Int64)) ((0 : Int64) + (q2 &&& (9223372036854775807 : Int64))))), .unset] [(.int (own_f5 (q1 &&& (9223372036854775807 : Int64)) (q2 &&& (9223372036854775807 : Int64)) (((q1 &&& (9223372036854775807 : Int64)) - (q2 &&& (9223372036854775807 : Int64))) + (1 : Int64))))])) _
        refine XS.istore X44.here hx rfl (hb hby at_109) rfl (l' := #[.val (.long q1), .second, .val (.long q2), .second, .val (.long q3), .second, .val (.int p4), .val (.long (q1 &&& (9223372036854775807 : Int64))), .second, .val (.long (q2 &&& (9223372036854775807 : Int64))), .second, .val (.int (p4 &&& (3 : Int32))), .val (.long (((q1 &&& (9223372036854775807 : Int64)) - (q2 &&& (9223372036854775807 : Int64))) + (1 : Int64))), .second, .val (.ref b28), .val (.int (own_f4 (((q1 &&& (9223372036854775807 : Int64)) - (q2 &&& (9223372036854775807 : Int64))) + (1 : Int64)) (q1 &&& (9223372036854775807 : Int64)) ((0 : Int64) + (q2 &&& (9223372036854775807 : Int64))))), .val (.int (own_f5 (q1 &&& (9223372036854775807 : Int64)) (q2 &&& (9223372036854775807 : Int64)) (((q1 &&& (9223372036854775807 : Int64)) - (q2 &&& (9223372036854775807 : Int64))) + (1 : Int64))))]) rfl ?_
        show Steps p.tables e below (T44.setTop (mkF m 111 #[.val (.long q1), .second, .val (.long q2), .second, .val (.long q3), .second, .val (.int p4), .val (.long (q1 &&& (9223372036854775807 : Int64))), .second, .val (.long (q2 &&& (9223372036854775807 : Int64))), .second, .val (.int (p4 &&& (3 : Int32))), .val (.long (((q1 &&& (9223372036854775807 : Int64)) - (q2 &&& (9223372036854775807 : Int64))) + (1 : Int64))), .second, .val (.ref b28), .val (.int (own_f4 (((q1 &&& (9223372036854775807 : Int64)) - (q2 &&& (9223372036854775807 : Int64))) + (1 : Int64)) (q1 &&& (9223372036854775807 : Int64)) ((0 : Int64) + (q2 &&& (9223372036854775807 : Int64))))), .val (.int (own_f5 (q1 &&& (9223372036854775807 : Int64)) (q2 &&& (9223372036854775807 : Int64)) (((q1 &&& (9223372036854775807 : Int64)) - (q2 &&& (9223372036854775807 : Int64))) + (1 : Int64))))] [])) _
        refine XS.iload X44.here hx rfl (hb hby at_111) rfl ?_
        show Steps p.tables e below (T44.setTop (mkF m 113 #[.val (.long q1), .second, .val (.long q2), .second, .val (.long q3), .second, .val (.int p4), .val (.long (q1 &&& (9223372036854775807 : Int64))), .second, .val (.long (q2 &&& (9223372036854775807 : Int64))), .second, .val (.int (p4 &&& (3 : Int32))), .val (.long (((q1 &&& (9223372036854775807 : Int64)) - (q2 &&& (9223372036854775807 : Int64))) + (1 : Int64))), .second, .val (.ref b28), .val (.int (own_f4 (((q1 &&& (9223372036854775807 : Int64)) - (q2 &&& (9223372036854775807 : Int64))) + (1 : Int64)) (q1 &&& (9223372036854775807 : Int64)) ((0 : Int64) + (q2 &&& (9223372036854775807 : Int64))))), .val (.int (own_f5 (q1 &&& (9223372036854775807 : Int64)) (q2 &&& (9223372036854775807 : Int64)) (((q1 &&& (9223372036854775807 : Int64)) - (q2 &&& (9223372036854775807 : Int64))) + (1 : Int64))))] [(.int (own_f4 (((q1 &&& (9223372036854775807 : Int64)) - (q2 &&& (9223372036854775807 : Int64))) + (1 : Int64)) (q1 &&& (9223372036854775807 : Int64)) ((0 : Int64) + (q2 &&& (9223372036854775807 : Int64)))))])) _
        refine XS.iload X44.here hx rfl (hb hby at_113) rfl ?_
        exact kt
      by_cases hc6 : (own_f4 (((q1 &&& (9223372036854775807 : Int64)) - (q2 &&& (9223372036854775807 : Int64))) + (1 : Int64)) (q1 &&& (9223372036854775807 : Int64)) ((0 : Int64) + (q2 &&& (9223372036854775807 : Int64)))) = (own_f5 (q1 &&& (9223372036854775807 : Int64)) (q2 &&& (9223372036854775807 : Int64)) (((q1 &&& (9223372036854775807 : Int64)) - (q2 &&& (9223372036854775807 : Int64))) + (1 : Int64)))
      ·
        obtain ⟨cq47, kq47, q47a, q47b, q47c⟩ := isOf hZ e44 Q36_0
        obtain ⟨v47, _, ⟨T47, L47, k47, n47⟩, -, X47, ⟨Lc47, hQ47, l47, y47, z47⟩, st47⟩ := X44.virtualBack hx (y := (⟨"com/example/castd/castd/Room", "bytes", "()J"⟩ : MethodName)) (z := (⟨"com/example/castd/castd/Room", "bytes", "()J"⟩ : MethodName)) hown (mvT hZ (hw _ (List.mem_of_getElem? (i := 28) rfl))) (mvT hZ (hw _ (List.mem_of_getElem? (i := 29) rfl))) (notFace_of_selects (args := #[]) (mvT hZ (hw _ (List.mem_of_getElem? (i := 31) rfl)))) (mvT hZ (hw _ (List.mem_of_getElem? (i := 31) rfl))) (mvT hZ (hw _ (List.mem_of_getElem? (i := 30) rfl))) (by decide) (backOf (W := 0) (own_rm6 l Z a0 hw [] b28 ((0 : Int64) + (q2 &&& (9223372036854775807 : Int64))) T36.heap n0 Z40 Q36_1) hZ (hw _ (List.mem_of_getElem? (i := 32) rfl)) (hw _ (List.mem_of_getElem? (i := 3) rfl)) (by decide) (by decide)) q47a q47c (g := (mkF m 120 #[.val (.long q1), .second, .val (.long q2), .second, .val (.long q3), .second, .val (.int p4), .val (.long (q1 &&& (9223372036854775807 : Int64))), .second, .val (.long (q2 &&& (9223372036854775807 : Int64))), .second, .val (.int (p4 &&& (3 : Int32))), .val (.long (((q1 &&& (9223372036854775807 : Int64)) - (q2 &&& (9223372036854775807 : Int64))) + (1 : Int64))), .second, .val (.ref b28), .val (.int (own_f4 (((q1 &&& (9223372036854775807 : Int64)) - (q2 &&& (9223372036854775807 : Int64))) + (1 : Int64)) (q1 &&& (9223372036854775807 : Int64)) ((0 : Int64) + (q2 &&& (9223372036854775807 : Int64))))), .val (.int (own_f5 (q1 &&& (9223372036854775807 : Int64)) (q2 &&& (9223372036854775807 : Int64)) (((q1 &&& (9223372036854775807 : Int64)) - (q2 &&& (9223372036854775807 : Int64))) + (1 : Int64))))] [(.ref b28)])) rfl (by rw [hml]; rfl) (Steps.refl _) (argsL := []) (rest := []) (lenOf own_pd66 rfl) rfl (by show 2 * 0 + _ ≤ _; exact Nat.le_of_eq rfl) (hb hby at_120) (fun _ _ => ⟨rfl, e44, (by decide : 1 + 0 ≤ _), (by decide : 2 + 0 ≤ _)⟩)
        dsimp only [Pt.U, Pt.locs, Pt.cells, Pt.slots] at X47 l47 y47 z47 st47 hQ47
        subst l47 y47 z47
        obtain ⟨hv47, N47q, e47⟩ := hQ47
        have N48 := Fr.app N45 N47q
        rw [show (own_f6 ((0 : Int64) + (q2 &&& (9223372036854775807 : Int64)))) = ((0 : Int64) + (q2 &&& (9223372036854775807 : Int64))) from by first | rfl | decide | simp [own_f6]] at hv47
        subst hv47
        have k49 : ∀ t, Steps p.tables e below (T47.setTop (mkF m 126 #[.val (.long q1), .second, .val (.long q2), .second, .val (.long q3), .second, .val (.int p4), .val (.long (q1 &&& (9223372036854775807 : Int64))), .second, .val (.long (q2 &&& (9223372036854775807 : Int64))), .second, .val (.int (p4 &&& (3 : Int32))), .val (.long (((q1 &&& (9223372036854775807 : Int64)) - (q2 &&& (9223372036854775807 : Int64))) + (1 : Int64))), .second, .val (.ref b28), .val (.int (own_f4 (((q1 &&& (9223372036854775807 : Int64)) - (q2 &&& (9223372036854775807 : Int64))) + (1 : Int64)) (q1 &&& (9223372036854775807 : Int64)) ((0 : Int64) + (q2 &&& (9223372036854775807 : Int64))))), .val (.int (own_f5 (q1 &&& (9223372036854775807 : Int64)) (q2 &&& (9223372036854775807 : Int64)) (((q1 &&& (9223372036854775807 : Int64)) - (q2 &&& (9223372036854775807 : Int64))) + (1 : Int64))))] [(.int (lcmpW ((0 : Int64) + (q2 &&& (9223372036854775807 : Int64))) (q2 &&& (9223372036854775807 : Int64))))])) t → Steps p.tables e below (s₁.setTop (entryFrame m #[(.long q1), (.long q2), (.long q3), (.int p4)] maxLocals)) t := by
          intro t kt
          refine k46 t ?_
          show Steps p.tables e below (T44.setTop (mkF m 115 #[.val (.long q1), .second, .val (.long q2), .second, .val (.long q3), .second, .val (.int p4), .val (.long (q1 &&& (9223372036854775807 : Int64))), .second, .val (.long (q2 &&& (9223372036854775807 : Int64))), .second, .val (.int (p4 &&& (3 : Int32))), .val (.long (((q1 &&& (9223372036854775807 : Int64)) - (q2 &&& (9223372036854775807 : Int64))) + (1 : Int64))), .second, .val (.ref b28), .val (.int (own_f4 (((q1 &&& (9223372036854775807 : Int64)) - (q2 &&& (9223372036854775807 : Int64))) + (1 : Int64)) (q1 &&& (9223372036854775807 : Int64)) ((0 : Int64) + (q2 &&& (9223372036854775807 : Int64))))), .val (.int (own_f5 (q1 &&& (9223372036854775807 : Int64)) (q2 &&& (9223372036854775807 : Int64)) (((q1 &&& (9223372036854775807 : Int64)) - (q2 &&& (9223372036854775807 : Int64))) + (1 : Int64))))] [(.int (own_f5 (q1 &&& (9223372036854775807 : Int64)) (q2 &&& (9223372036854775807 : Int64)) (((q1 &&& (9223372036854775807 : Int64)) - (q2 &&& (9223372036854775807 : Int64))) + (1 : Int64)))), (.int (own_f4 (((q1 &&& (9223372036854775807 : Int64)) - (q2 &&& (9223372036854775807 : Int64))) + (1 : Int64)) (q1 &&& (9223372036854775807 : Int64)) ((0 : Int64) + (q2 &&& (9223372036854775807 : Int64)))))])) _
          refine XS.icmpNo X44.here hx rfl (hb hby at_115) rfl (teq hc6).2 ?_
          show Steps p.tables e below (T44.setTop (mkF m 118 #[.val (.long q1), .second, .val (.long q2), .second, .val (.long q3), .second, .val (.int p4), .val (.long (q1 &&& (9223372036854775807 : Int64))), .second, .val (.long (q2 &&& (9223372036854775807 : Int64))), .second, .val (.int (p4 &&& (3 : Int32))), .val (.long (((q1 &&& (9223372036854775807 : Int64)) - (q2 &&& (9223372036854775807 : Int64))) + (1 : Int64))), .second, .val (.ref b28), .val (.int (own_f4 (((q1 &&& (9223372036854775807 : Int64)) - (q2 &&& (9223372036854775807 : Int64))) + (1 : Int64)) (q1 &&& (9223372036854775807 : Int64)) ((0 : Int64) + (q2 &&& (9223372036854775807 : Int64))))), .val (.int (own_f5 (q1 &&& (9223372036854775807 : Int64)) (q2 &&& (9223372036854775807 : Int64)) (((q1 &&& (9223372036854775807 : Int64)) - (q2 &&& (9223372036854775807 : Int64))) + (1 : Int64))))] [])) _
          refine XS.aload X44.here hx rfl (hb hby at_118) rfl rfl ?_
          show Steps p.tables e below (T44.setTop (mkF m 120 #[.val (.long q1), .second, .val (.long q2), .second, .val (.long q3), .second, .val (.int p4), .val (.long (q1 &&& (9223372036854775807 : Int64))), .second, .val (.long (q2 &&& (9223372036854775807 : Int64))), .second, .val (.int (p4 &&& (3 : Int32))), .val (.long (((q1 &&& (9223372036854775807 : Int64)) - (q2 &&& (9223372036854775807 : Int64))) + (1 : Int64))), .second, .val (.ref b28), .val (.int (own_f4 (((q1 &&& (9223372036854775807 : Int64)) - (q2 &&& (9223372036854775807 : Int64))) + (1 : Int64)) (q1 &&& (9223372036854775807 : Int64)) ((0 : Int64) + (q2 &&& (9223372036854775807 : Int64))))), .val (.int (own_f5 (q1 &&& (9223372036854775807 : Int64)) (q2 &&& (9223372036854775807 : Int64)) (((q1 &&& (9223372036854775807 : Int64)) - (q2 &&& (9223372036854775807 : Int64))) + (1 : Int64))))] [(.ref b28)])) _
          refine st47.trans ?_
          show Steps p.tables e below (T47.setTop (mkF m 123 #[.val (.long q1), .second, .val (.long q2), .second, .val (.long q3), .second, .val (.int p4), .val (.long (q1 &&& (9223372036854775807 : Int64))), .second, .val (.long (q2 &&& (9223372036854775807 : Int64))), .second, .val (.int (p4 &&& (3 : Int32))), .val (.long (((q1 &&& (9223372036854775807 : Int64)) - (q2 &&& (9223372036854775807 : Int64))) + (1 : Int64))), .second, .val (.ref b28), .val (.int (own_f4 (((q1 &&& (9223372036854775807 : Int64)) - (q2 &&& (9223372036854775807 : Int64))) + (1 : Int64)) (q1 &&& (9223372036854775807 : Int64)) ((0 : Int64) + (q2 &&& (9223372036854775807 : Int64))))), .val (.int (own_f5 (q1 &&& (9223372036854775807 : Int64)) (q2 &&& (9223372036854775807 : Int64)) (((q1 &&& (9223372036854775807 : Int64)) - (q2 &&& (9223372036854775807 : Int64))) + (1 : Int64))))] [(.long ((0 : Int64) + (q2 &&& (9223372036854775807 : Int64))))])) _
          refine XS.lload X47.here hx rfl (hb hby at_123) rfl ?_
          show Steps p.tables e below (T47.setTop (mkF m 125 #[.val (.long q1), .second, .val (.long q2), .second, .val (.long q3), .second, .val (.int p4), .val (.long (q1 &&& (9223372036854775807 : Int64))), .second, .val (.long (q2 &&& (9223372036854775807 : Int64))), .second, .val (.int (p4 &&& (3 : Int32))), .val (.long (((q1 &&& (9223372036854775807 : Int64)) - (q2 &&& (9223372036854775807 : Int64))) + (1 : Int64))), .second, .val (.ref b28), .val (.int (own_f4 (((q1 &&& (9223372036854775807 : Int64)) - (q2 &&& (9223372036854775807 : Int64))) + (1 : Int64)) (q1 &&& (9223372036854775807 : Int64)) ((0 : Int64) + (q2 &&& (9223372036854775807 : Int64))))), .val (.int (own_f5 (q1 &&& (9223372036854775807 : Int64)) (q2 &&& (9223372036854775807 : Int64)) (((q1 &&& (9223372036854775807 : Int64)) - (q2 &&& (9223372036854775807 : Int64))) + (1 : Int64))))] [(.long (q2 &&& (9223372036854775807 : Int64))), (.long ((0 : Int64) + (q2 &&& (9223372036854775807 : Int64))))])) _
          refine XS.lcmp X47.here hx rfl (hb hby at_125) rfl ?_
          exact kt
        by_cases hc7 : (lcmpW ((0 : Int64) + (q2 &&& (9223372036854775807 : Int64))) (q2 &&& (9223372036854775807 : Int64))) = (0 : Int32)
        ·
          obtain ⟨cq50, kq50, q50a, q50b, q50c⟩ := isOf hZ e47 Q36_0
          obtain ⟨v50, _, ⟨T50, L50, k50, n50⟩, -, X50, ⟨Lc50, hQ50, l50, y50, z50⟩, st50⟩ := X47.virtualBack hx (y := (⟨"com/example/castd/castd/Room", "maxBytes", "()J"⟩ : MethodName)) (z := (⟨"com/example/castd/castd/Room", "maxBytes", "()J"⟩ : MethodName)) hown (mvT hZ (hw _ (List.mem_of_getElem? (i := 33) rfl))) (mvT hZ (hw _ (List.mem_of_getElem? (i := 34) rfl))) (notFace_of_selects (args := #[]) (mvT hZ (hw _ (List.mem_of_getElem? (i := 36) rfl)))) (mvT hZ (hw _ (List.mem_of_getElem? (i := 36) rfl))) (mvT hZ (hw _ (List.mem_of_getElem? (i := 35) rfl))) (by decide) (backOf (W := 0) (own_rm7 l Z a0 hw [] b28 (q1 &&& (9223372036854775807 : Int64)) T36.heap n0 Z40 Q36_2) hZ (hw _ (List.mem_of_getElem? (i := 37) rfl)) (hw _ (List.mem_of_getElem? (i := 3) rfl)) (by decide) (by decide)) q50a q50c (g := (mkF m 131 #[.val (.long q1), .second, .val (.long q2), .second, .val (.long q3), .second, .val (.int p4), .val (.long (q1 &&& (9223372036854775807 : Int64))), .second, .val (.long (q2 &&& (9223372036854775807 : Int64))), .second, .val (.int (p4 &&& (3 : Int32))), .val (.long (((q1 &&& (9223372036854775807 : Int64)) - (q2 &&& (9223372036854775807 : Int64))) + (1 : Int64))), .second, .val (.ref b28), .val (.int (own_f4 (((q1 &&& (9223372036854775807 : Int64)) - (q2 &&& (9223372036854775807 : Int64))) + (1 : Int64)) (q1 &&& (9223372036854775807 : Int64)) ((0 : Int64) + (q2 &&& (9223372036854775807 : Int64))))), .val (.int (own_f5 (q1 &&& (9223372036854775807 : Int64)) (q2 &&& (9223372036854775807 : Int64)) (((q1 &&& (9223372036854775807 : Int64)) - (q2 &&& (9223372036854775807 : Int64))) + (1 : Int64))))] [(.ref b28)])) rfl (by rw [hml]; rfl) (Steps.refl _) (argsL := []) (rest := []) (lenOf own_pd66 rfl) rfl (by show 2 * 0 + _ ≤ _; exact Nat.le_of_eq rfl) (hb hby at_131) (fun _ _ => ⟨rfl, e47, (by decide : 1 + 0 ≤ _), (by decide : 2 + 0 ≤ _)⟩)
          dsimp only [Pt.U, Pt.locs, Pt.cells, Pt.slots] at X50 l50 y50 z50 st50 hQ50
          subst l50 y50 z50
          obtain ⟨hv50, N50q, e50⟩ := hQ50
          have N51 := Fr.app N48 N50q
          rw [show (own_f7 (q1 &&& (9223372036854775807 : Int64))) = (q1 &&& (9223372036854775807 : Int64)) from by first | rfl | decide | simp [own_f7]] at hv50
          subst hv50
          have k52 : ∀ t, Steps p.tables e below (T50.setTop (mkF m 137 #[.val (.long q1), .second, .val (.long q2), .second, .val (.long q3), .second, .val (.int p4), .val (.long (q1 &&& (9223372036854775807 : Int64))), .second, .val (.long (q2 &&& (9223372036854775807 : Int64))), .second, .val (.int (p4 &&& (3 : Int32))), .val (.long (((q1 &&& (9223372036854775807 : Int64)) - (q2 &&& (9223372036854775807 : Int64))) + (1 : Int64))), .second, .val (.ref b28), .val (.int (own_f4 (((q1 &&& (9223372036854775807 : Int64)) - (q2 &&& (9223372036854775807 : Int64))) + (1 : Int64)) (q1 &&& (9223372036854775807 : Int64)) ((0 : Int64) + (q2 &&& (9223372036854775807 : Int64))))), .val (.int (own_f5 (q1 &&& (9223372036854775807 : Int64)) (q2 &&& (9223372036854775807 : Int64)) (((q1 &&& (9223372036854775807 : Int64)) - (q2 &&& (9223372036854775807 : Int64))) + (1 : Int64))))] [(.int (lcmpW (q1 &&& (9223372036854775807 : Int64)) (q1 &&& (9223372036854775807 : Int64))))])) t → Steps p.tables e below (s₁.setTop (entryFrame m #[(.long q1), (.long q2), (.long q3), (.int p4)] maxLocals)) t := by
            intro t kt
            refine k49 t ?_
            show Steps p.tables e below (T47.setTop (mkF m 126 #[.val (.long q1), .second, .val (.long q2), .second, .val (.long q3), .second, .val (.int p4), .val (.long (q1 &&& (9223372036854775807 : Int64))), .second, .val (.long (q2 &&& (9223372036854775807 : Int64))), .second, .val (.int (p4 &&& (3 : Int32))), .val (.long (((q1 &&& (9223372036854775807 : Int64)) - (q2 &&& (9223372036854775807 : Int64))) + (1 : Int64))), .second, .val (.ref b28), .val (.int (own_f4 (((q1 &&& (9223372036854775807 : Int64)) - (q2 &&& (9223372036854775807 : Int64))) + (1 : Int64)) (q1 &&& (9223372036854775807 : Int64)) ((0 : Int64) + (q2 &&& (9223372036854775807 : Int64))))), .val (.int (own_f5 (q1 &&& (9223372036854775807 : Int64)) (q2 &&& (9223372036854775807 : Int64)) (((q1 &&& (9223372036854775807 : Int64)) - (q2 &&& (9223372036854775807 : Int64))) + (1 : Int64))))] [(.int (lcmpW ((0 : Int64) + (q2 &&& (9223372036854775807 : Int64))) (q2 &&& (9223372036854775807 : Int64))))])) _
            refine XS.ifNo X47.here hx rfl (hb hby at_126) rfl ((if0 _ _).trans (teq hc7).2) ?_
            show Steps p.tables e below (T47.setTop (mkF m 129 #[.val (.long q1), .second, .val (.long q2), .second, .val (.long q3), .second, .val (.int p4), .val (.long (q1 &&& (9223372036854775807 : Int64))), .second, .val (.long (q2 &&& (9223372036854775807 : Int64))), .second, .val (.int (p4 &&& (3 : Int32))), .val (.long (((q1 &&& (9223372036854775807 : Int64)) - (q2 &&& (9223372036854775807 : Int64))) + (1 : Int64))), .second, .val (.ref b28), .val (.int (own_f4 (((q1 &&& (9223372036854775807 : Int64)) - (q2 &&& (9223372036854775807 : Int64))) + (1 : Int64)) (q1 &&& (9223372036854775807 : Int64)) ((0 : Int64) + (q2 &&& (9223372036854775807 : Int64))))), .val (.int (own_f5 (q1 &&& (9223372036854775807 : Int64)) (q2 &&& (9223372036854775807 : Int64)) (((q1 &&& (9223372036854775807 : Int64)) - (q2 &&& (9223372036854775807 : Int64))) + (1 : Int64))))] [])) _
            refine XS.aload X47.here hx rfl (hb hby at_129) rfl rfl ?_
            show Steps p.tables e below (T47.setTop (mkF m 131 #[.val (.long q1), .second, .val (.long q2), .second, .val (.long q3), .second, .val (.int p4), .val (.long (q1 &&& (9223372036854775807 : Int64))), .second, .val (.long (q2 &&& (9223372036854775807 : Int64))), .second, .val (.int (p4 &&& (3 : Int32))), .val (.long (((q1 &&& (9223372036854775807 : Int64)) - (q2 &&& (9223372036854775807 : Int64))) + (1 : Int64))), .second, .val (.ref b28), .val (.int (own_f4 (((q1 &&& (9223372036854775807 : Int64)) - (q2 &&& (9223372036854775807 : Int64))) + (1 : Int64)) (q1 &&& (9223372036854775807 : Int64)) ((0 : Int64) + (q2 &&& (9223372036854775807 : Int64))))), .val (.int (own_f5 (q1 &&& (9223372036854775807 : Int64)) (q2 &&& (9223372036854775807 : Int64)) (((q1 &&& (9223372036854775807 : Int64)) - (q2 &&& (9223372036854775807 : Int64))) + (1 : Int64))))] [(.ref b28)])) _
            refine st50.trans ?_
            show Steps p.tables e below (T50.setTop (mkF m 134 #[.val (.long q1), .second, .val (.long q2), .second, .val (.long q3), .second, .val (.int p4), .val (.long (q1 &&& (9223372036854775807 : Int64))), .second, .val (.long (q2 &&& (9223372036854775807 : Int64))), .second, .val (.int (p4 &&& (3 : Int32))), .val (.long (((q1 &&& (9223372036854775807 : Int64)) - (q2 &&& (9223372036854775807 : Int64))) + (1 : Int64))), .second, .val (.ref b28), .val (.int (own_f4 (((q1 &&& (9223372036854775807 : Int64)) - (q2 &&& (9223372036854775807 : Int64))) + (1 : Int64)) (q1 &&& (9223372036854775807 : Int64)) ((0 : Int64) + (q2 &&& (9223372036854775807 : Int64))))), .val (.int (own_f5 (q1 &&& (9223372036854775807 : Int64)) (q2 &&& (9223372036854775807 : Int64)) (((q1 &&& (9223372036854775807 : Int64)) - (q2 &&& (9223372036854775807 : Int64))) + (1 : Int64))))] [(.long (q1 &&& (9223372036854775807 : Int64)))])) _
            refine XS.lload X50.here hx rfl (hb hby at_134) rfl ?_
            show Steps p.tables e below (T50.setTop (mkF m 136 #[.val (.long q1), .second, .val (.long q2), .second, .val (.long q3), .second, .val (.int p4), .val (.long (q1 &&& (9223372036854775807 : Int64))), .second, .val (.long (q2 &&& (9223372036854775807 : Int64))), .second, .val (.int (p4 &&& (3 : Int32))), .val (.long (((q1 &&& (9223372036854775807 : Int64)) - (q2 &&& (9223372036854775807 : Int64))) + (1 : Int64))), .second, .val (.ref b28), .val (.int (own_f4 (((q1 &&& (9223372036854775807 : Int64)) - (q2 &&& (9223372036854775807 : Int64))) + (1 : Int64)) (q1 &&& (9223372036854775807 : Int64)) ((0 : Int64) + (q2 &&& (9223372036854775807 : Int64))))), .val (.int (own_f5 (q1 &&& (9223372036854775807 : Int64)) (q2 &&& (9223372036854775807 : Int64)) (((q1 &&& (9223372036854775807 : Int64)) - (q2 &&& (9223372036854775807 : Int64))) + (1 : Int64))))] [(.long (q1 &&& (9223372036854775807 : Int64))), (.long (q1 &&& (9223372036854775807 : Int64)))])) _
            refine XS.lcmp X50.here hx rfl (hb hby at_136) rfl ?_
            exact kt
          by_cases hc8 : (lcmpW (q1 &&& (9223372036854775807 : Int64)) (q1 &&& (9223372036854775807 : Int64))) = (0 : Int32)
          ·
            obtain ⟨fs, hr, hrun, hended, hW, hsame⟩ := X50.leave (v := some (.int (1 : Int32))) (fun h => by rw [Bd.returns] at h; cases h)
            refine ⟨_, _, k52 _ ?_, hrun, hended, _, _, rfl, ?_, ⟨_, rfl⟩, hW, hsame.mono (by decide) (by decide)⟩
            · show Steps p.tables e below (T50.setTop (mkF m 137 #[.val (.long q1), .second, .val (.long q2), .second, .val (.long q3), .second, .val (.int p4), .val (.long (q1 &&& (9223372036854775807 : Int64))), .second, .val (.long (q2 &&& (9223372036854775807 : Int64))), .second, .val (.int (p4 &&& (3 : Int32))), .val (.long (((q1 &&& (9223372036854775807 : Int64)) - (q2 &&& (9223372036854775807 : Int64))) + (1 : Int64))), .second, .val (.ref b28), .val (.int (own_f4 (((q1 &&& (9223372036854775807 : Int64)) - (q2 &&& (9223372036854775807 : Int64))) + (1 : Int64)) (q1 &&& (9223372036854775807 : Int64)) ((0 : Int64) + (q2 &&& (9223372036854775807 : Int64))))), .val (.int (own_f5 (q1 &&& (9223372036854775807 : Int64)) (q2 &&& (9223372036854775807 : Int64)) (((q1 &&& (9223372036854775807 : Int64)) - (q2 &&& (9223372036854775807 : Int64))) + (1 : Int64))))] [(.int (lcmpW (q1 &&& (9223372036854775807 : Int64)) (q1 &&& (9223372036854775807 : Int64))))])) _
              refine XS.ifNo X50.here hx rfl (hb hby at_137) rfl ((if0 _ _).trans (teq hc8).2) ?_
              show Steps p.tables e below (T50.setTop (mkF m 140 #[.val (.long q1), .second, .val (.long q2), .second, .val (.long q3), .second, .val (.int p4), .val (.long (q1 &&& (9223372036854775807 : Int64))), .second, .val (.long (q2 &&& (9223372036854775807 : Int64))), .second, .val (.int (p4 &&& (3 : Int32))), .val (.long (((q1 &&& (9223372036854775807 : Int64)) - (q2 &&& (9223372036854775807 : Int64))) + (1 : Int64))), .second, .val (.ref b28), .val (.int (own_f4 (((q1 &&& (9223372036854775807 : Int64)) - (q2 &&& (9223372036854775807 : Int64))) + (1 : Int64)) (q1 &&& (9223372036854775807 : Int64)) ((0 : Int64) + (q2 &&& (9223372036854775807 : Int64))))), .val (.int (own_f5 (q1 &&& (9223372036854775807 : Int64)) (q2 &&& (9223372036854775807 : Int64)) (((q1 &&& (9223372036854775807 : Int64)) - (q2 &&& (9223372036854775807 : Int64))) + (1 : Int64))))] [])) _
              refine XS.iconst X50.here hx rfl (hb hby at_140) ?_
              show Steps p.tables e below (T50.setTop (mkF m 141 #[.val (.long q1), .second, .val (.long q2), .second, .val (.long q3), .second, .val (.int p4), .val (.long (q1 &&& (9223372036854775807 : Int64))), .second, .val (.long (q2 &&& (9223372036854775807 : Int64))), .second, .val (.int (p4 &&& (3 : Int32))), .val (.long (((q1 &&& (9223372036854775807 : Int64)) - (q2 &&& (9223372036854775807 : Int64))) + (1 : Int64))), .second, .val (.ref b28), .val (.int (own_f4 (((q1 &&& (9223372036854775807 : Int64)) - (q2 &&& (9223372036854775807 : Int64))) + (1 : Int64)) (q1 &&& (9223372036854775807 : Int64)) ((0 : Int64) + (q2 &&& (9223372036854775807 : Int64))))), .val (.int (own_f5 (q1 &&& (9223372036854775807 : Int64)) (q2 &&& (9223372036854775807 : Int64)) (((q1 &&& (9223372036854775807 : Int64)) - (q2 &&& (9223372036854775807 : Int64))) + (1 : Int64))))] [(.int (1 : Int32))])) _
              refine XS.goto X50.here hx rfl (pc0 := 141) (pc' := 145) rfl (hb hby at_141) (by decide) (by decide) ?_
              show Steps p.tables e below (T50.setTop (mkF m 145 #[.val (.long q1), .second, .val (.long q2), .second, .val (.long q3), .second, .val (.int p4), .val (.long (q1 &&& (9223372036854775807 : Int64))), .second, .val (.long (q2 &&& (9223372036854775807 : Int64))), .second, .val (.int (p4 &&& (3 : Int32))), .val (.long (((q1 &&& (9223372036854775807 : Int64)) - (q2 &&& (9223372036854775807 : Int64))) + (1 : Int64))), .second, .val (.ref b28), .val (.int (own_f4 (((q1 &&& (9223372036854775807 : Int64)) - (q2 &&& (9223372036854775807 : Int64))) + (1 : Int64)) (q1 &&& (9223372036854775807 : Int64)) ((0 : Int64) + (q2 &&& (9223372036854775807 : Int64))))), .val (.int (own_f5 (q1 &&& (9223372036854775807 : Int64)) (q2 &&& (9223372036854775807 : Int64)) (((q1 &&& (9223372036854775807 : Int64)) - (q2 &&& (9223372036854775807 : Int64))) + (1 : Int64))))] [(.int (1 : Int32))])) _
              exact retN X50 hx (t := .boolean) Bd.returns (by simp) (hb hby at_145) hr
            · show own_Q0 Z q1 q2 q3 p4 h0 n0 _ T50.heap _
              rw [e50]
              exact ⟨(by rw [own_f0, if_neg hc1, if_pos hc5, if_pos hc6, if_pos hc7, if_pos hc8]), N51⟩
          ·
            obtain ⟨fs, hr, hrun, hended, hW, hsame⟩ := X50.leave (v := some (.int (0 : Int32))) (fun h => by rw [Bd.returns] at h; cases h)
            refine ⟨_, _, k52 _ ?_, hrun, hended, _, _, rfl, ?_, ⟨_, rfl⟩, hW, hsame.mono (by decide) (by decide)⟩
            · show Steps p.tables e below (T50.setTop (mkF m 137 #[.val (.long q1), .second, .val (.long q2), .second, .val (.long q3), .second, .val (.int p4), .val (.long (q1 &&& (9223372036854775807 : Int64))), .second, .val (.long (q2 &&& (9223372036854775807 : Int64))), .second, .val (.int (p4 &&& (3 : Int32))), .val (.long (((q1 &&& (9223372036854775807 : Int64)) - (q2 &&& (9223372036854775807 : Int64))) + (1 : Int64))), .second, .val (.ref b28), .val (.int (own_f4 (((q1 &&& (9223372036854775807 : Int64)) - (q2 &&& (9223372036854775807 : Int64))) + (1 : Int64)) (q1 &&& (9223372036854775807 : Int64)) ((0 : Int64) + (q2 &&& (9223372036854775807 : Int64))))), .val (.int (own_f5 (q1 &&& (9223372036854775807 : Int64)) (q2 &&& (9223372036854775807 : Int64)) (((q1 &&& (9223372036854775807 : Int64)) - (q2 &&& (9223372036854775807 : Int64))) + (1 : Int64))))] [(.int (lcmpW (q1 &&& (9223372036854775807 : Int64)) (q1 &&& (9223372036854775807 : Int64))))])) _
              refine XS.ifYes X50.here hx rfl (pc0 := 137) (pc' := 144) rfl (hb hby at_137) rfl ((if0 _ _).trans (feq hc8).2) (by decide) (by decide) ?_
              show Steps p.tables e below (T50.setTop (mkF m 144 #[.val (.long q1), .second, .val (.long q2), .second, .val (.long q3), .second, .val (.int p4), .val (.long (q1 &&& (9223372036854775807 : Int64))), .second, .val (.long (q2 &&& (9223372036854775807 : Int64))), .second, .val (.int (p4 &&& (3 : Int32))), .val (.long (((q1 &&& (9223372036854775807 : Int64)) - (q2 &&& (9223372036854775807 : Int64))) + (1 : Int64))), .second, .val (.ref b28), .val (.int (own_f4 (((q1 &&& (9223372036854775807 : Int64)) - (q2 &&& (9223372036854775807 : Int64))) + (1 : Int64)) (q1 &&& (9223372036854775807 : Int64)) ((0 : Int64) + (q2 &&& (9223372036854775807 : Int64))))), .val (.int (own_f5 (q1 &&& (9223372036854775807 : Int64)) (q2 &&& (9223372036854775807 : Int64)) (((q1 &&& (9223372036854775807 : Int64)) - (q2 &&& (9223372036854775807 : Int64))) + (1 : Int64))))] [])) _
              refine XS.iconst X50.here hx rfl (hb hby at_144) ?_
              show Steps p.tables e below (T50.setTop (mkF m 145 #[.val (.long q1), .second, .val (.long q2), .second, .val (.long q3), .second, .val (.int p4), .val (.long (q1 &&& (9223372036854775807 : Int64))), .second, .val (.long (q2 &&& (9223372036854775807 : Int64))), .second, .val (.int (p4 &&& (3 : Int32))), .val (.long (((q1 &&& (9223372036854775807 : Int64)) - (q2 &&& (9223372036854775807 : Int64))) + (1 : Int64))), .second, .val (.ref b28), .val (.int (own_f4 (((q1 &&& (9223372036854775807 : Int64)) - (q2 &&& (9223372036854775807 : Int64))) + (1 : Int64)) (q1 &&& (9223372036854775807 : Int64)) ((0 : Int64) + (q2 &&& (9223372036854775807 : Int64))))), .val (.int (own_f5 (q1 &&& (9223372036854775807 : Int64)) (q2 &&& (9223372036854775807 : Int64)) (((q1 &&& (9223372036854775807 : Int64)) - (q2 &&& (9223372036854775807 : Int64))) + (1 : Int64))))] [(.int (0 : Int32))])) _
              exact retN X50 hx (t := .boolean) Bd.returns (by simp) (hb hby at_145) hr
            · show own_Q0 Z q1 q2 q3 p4 h0 n0 _ T50.heap _
              rw [e50]
              exact ⟨(by rw [own_f0, if_neg hc1, if_pos hc5, if_pos hc6, if_pos hc7, if_neg hc8]), N51⟩
        ·
          obtain ⟨fs, hr, hrun, hended, hW, hsame⟩ := X47.leave (v := some (.int (0 : Int32))) (fun h => by rw [Bd.returns] at h; cases h)
          refine ⟨_, _, k49 _ ?_, hrun, hended, _, _, rfl, ?_, ⟨_, rfl⟩, hW, hsame.mono (by decide) (by decide)⟩
          · show Steps p.tables e below (T47.setTop (mkF m 126 #[.val (.long q1), .second, .val (.long q2), .second, .val (.long q3), .second, .val (.int p4), .val (.long (q1 &&& (9223372036854775807 : Int64))), .second, .val (.long (q2 &&& (9223372036854775807 : Int64))), .second, .val (.int (p4 &&& (3 : Int32))), .val (.long (((q1 &&& (9223372036854775807 : Int64)) - (q2 &&& (9223372036854775807 : Int64))) + (1 : Int64))), .second, .val (.ref b28), .val (.int (own_f4 (((q1 &&& (9223372036854775807 : Int64)) - (q2 &&& (9223372036854775807 : Int64))) + (1 : Int64)) (q1 &&& (9223372036854775807 : Int64)) ((0 : Int64) + (q2 &&& (9223372036854775807 : Int64))))), .val (.int (own_f5 (q1 &&& (9223372036854775807 : Int64)) (q2 &&& (9223372036854775807 : Int64)) (((q1 &&& (9223372036854775807 : Int64)) - (q2 &&& (9223372036854775807 : Int64))) + (1 : Int64))))] [(.int (lcmpW ((0 : Int64) + (q2 &&& (9223372036854775807 : Int64))) (q2 &&& (9223372036854775807 : Int64))))])) _
            refine XS.ifYes X47.here hx rfl (pc0 := 126) (pc' := 144) rfl (hb hby at_126) rfl ((if0 _ _).trans (feq hc7).2) (by decide) (by decide) ?_
            show Steps p.tables e below (T47.setTop (mkF m 144 #[.val (.long q1), .second, .val (.long q2), .second, .val (.long q3), .second, .val (.int p4), .val (.long (q1 &&& (9223372036854775807 : Int64))), .second, .val (.long (q2 &&& (9223372036854775807 : Int64))), .second, .val (.int (p4 &&& (3 : Int32))), .val (.long (((q1 &&& (9223372036854775807 : Int64)) - (q2 &&& (9223372036854775807 : Int64))) + (1 : Int64))), .second, .val (.ref b28), .val (.int (own_f4 (((q1 &&& (9223372036854775807 : Int64)) - (q2 &&& (9223372036854775807 : Int64))) + (1 : Int64)) (q1 &&& (9223372036854775807 : Int64)) ((0 : Int64) + (q2 &&& (9223372036854775807 : Int64))))), .val (.int (own_f5 (q1 &&& (9223372036854775807 : Int64)) (q2 &&& (9223372036854775807 : Int64)) (((q1 &&& (9223372036854775807 : Int64)) - (q2 &&& (9223372036854775807 : Int64))) + (1 : Int64))))] [])) _
            refine XS.iconst X47.here hx rfl (hb hby at_144) ?_
            show Steps p.tables e below (T47.setTop (mkF m 145 #[.val (.long q1), .second, .val (.long q2), .second, .val (.long q3), .second, .val (.int p4), .val (.long (q1 &&& (9223372036854775807 : Int64))), .second, .val (.long (q2 &&& (9223372036854775807 : Int64))), .second, .val (.int (p4 &&& (3 : Int32))), .val (.long (((q1 &&& (9223372036854775807 : Int64)) - (q2 &&& (9223372036854775807 : Int64))) + (1 : Int64))), .second, .val (.ref b28), .val (.int (own_f4 (((q1 &&& (9223372036854775807 : Int64)) - (q2 &&& (9223372036854775807 : Int64))) + (1 : Int64)) (q1 &&& (9223372036854775807 : Int64)) ((0 : Int64) + (q2 &&& (9223372036854775807 : Int64))))), .val (.int (own_f5 (q1 &&& (9223372036854775807 : Int64)) (q2 &&& (9223372036854775807 : Int64)) (((q1 &&& (9223372036854775807 : Int64)) - (q2 &&& (9223372036854775807 : Int64))) + (1 : Int64))))] [(.int (0 : Int32))])) _
            exact retN X47 hx (t := .boolean) Bd.returns (by simp) (hb hby at_145) hr
          · show own_Q0 Z q1 q2 q3 p4 h0 n0 _ T47.heap _
            rw [e47]
            exact ⟨(by rw [own_f0, if_neg hc1, if_pos hc5, if_pos hc6, if_neg hc7]), N48⟩
      ·
        obtain ⟨fs, hr, hrun, hended, hW, hsame⟩ := X44.leave (v := some (.int (0 : Int32))) (fun h => by rw [Bd.returns] at h; cases h)
        refine ⟨_, _, k46 _ ?_, hrun, hended, _, _, rfl, ?_, ⟨_, rfl⟩, hW, hsame.mono (by decide) (by decide)⟩
        · show Steps p.tables e below (T44.setTop (mkF m 115 #[.val (.long q1), .second, .val (.long q2), .second, .val (.long q3), .second, .val (.int p4), .val (.long (q1 &&& (9223372036854775807 : Int64))), .second, .val (.long (q2 &&& (9223372036854775807 : Int64))), .second, .val (.int (p4 &&& (3 : Int32))), .val (.long (((q1 &&& (9223372036854775807 : Int64)) - (q2 &&& (9223372036854775807 : Int64))) + (1 : Int64))), .second, .val (.ref b28), .val (.int (own_f4 (((q1 &&& (9223372036854775807 : Int64)) - (q2 &&& (9223372036854775807 : Int64))) + (1 : Int64)) (q1 &&& (9223372036854775807 : Int64)) ((0 : Int64) + (q2 &&& (9223372036854775807 : Int64))))), .val (.int (own_f5 (q1 &&& (9223372036854775807 : Int64)) (q2 &&& (9223372036854775807 : Int64)) (((q1 &&& (9223372036854775807 : Int64)) - (q2 &&& (9223372036854775807 : Int64))) + (1 : Int64))))] [(.int (own_f5 (q1 &&& (9223372036854775807 : Int64)) (q2 &&& (9223372036854775807 : Int64)) (((q1 &&& (9223372036854775807 : Int64)) - (q2 &&& (9223372036854775807 : Int64))) + (1 : Int64)))), (.int (own_f4 (((q1 &&& (9223372036854775807 : Int64)) - (q2 &&& (9223372036854775807 : Int64))) + (1 : Int64)) (q1 &&& (9223372036854775807 : Int64)) ((0 : Int64) + (q2 &&& (9223372036854775807 : Int64)))))])) _
          refine XS.icmpYes X44.here hx rfl (pc0 := 115) (pc' := 144) rfl (hb hby at_115) rfl (feq hc6).2 (by decide) (by decide) ?_
          show Steps p.tables e below (T44.setTop (mkF m 144 #[.val (.long q1), .second, .val (.long q2), .second, .val (.long q3), .second, .val (.int p4), .val (.long (q1 &&& (9223372036854775807 : Int64))), .second, .val (.long (q2 &&& (9223372036854775807 : Int64))), .second, .val (.int (p4 &&& (3 : Int32))), .val (.long (((q1 &&& (9223372036854775807 : Int64)) - (q2 &&& (9223372036854775807 : Int64))) + (1 : Int64))), .second, .val (.ref b28), .val (.int (own_f4 (((q1 &&& (9223372036854775807 : Int64)) - (q2 &&& (9223372036854775807 : Int64))) + (1 : Int64)) (q1 &&& (9223372036854775807 : Int64)) ((0 : Int64) + (q2 &&& (9223372036854775807 : Int64))))), .val (.int (own_f5 (q1 &&& (9223372036854775807 : Int64)) (q2 &&& (9223372036854775807 : Int64)) (((q1 &&& (9223372036854775807 : Int64)) - (q2 &&& (9223372036854775807 : Int64))) + (1 : Int64))))] [])) _
          refine XS.iconst X44.here hx rfl (hb hby at_144) ?_
          show Steps p.tables e below (T44.setTop (mkF m 145 #[.val (.long q1), .second, .val (.long q2), .second, .val (.long q3), .second, .val (.int p4), .val (.long (q1 &&& (9223372036854775807 : Int64))), .second, .val (.long (q2 &&& (9223372036854775807 : Int64))), .second, .val (.int (p4 &&& (3 : Int32))), .val (.long (((q1 &&& (9223372036854775807 : Int64)) - (q2 &&& (9223372036854775807 : Int64))) + (1 : Int64))), .second, .val (.ref b28), .val (.int (own_f4 (((q1 &&& (9223372036854775807 : Int64)) - (q2 &&& (9223372036854775807 : Int64))) + (1 : Int64)) (q1 &&& (9223372036854775807 : Int64)) ((0 : Int64) + (q2 &&& (9223372036854775807 : Int64))))), .val (.int (own_f5 (q1 &&& (9223372036854775807 : Int64)) (q2 &&& (9223372036854775807 : Int64)) (((q1 &&& (9223372036854775807 : Int64)) - (q2 &&& (9223372036854775807 : Int64))) + (1 : Int64))))] [(.int (0 : Int32))])) _
          exact retN X44 hx (t := .boolean) Bd.returns (by simp) (hb hby at_145) hr
        · show own_Q0 Z q1 q2 q3 p4 h0 n0 _ T44.heap _
          rw [e44]
          exact ⟨(by rw [own_f0, if_neg hc1, if_pos hc5, if_neg hc6]), N45⟩
    ·
      have k53 : ∀ t, Steps p.tables e below (s₁.setTop (mkF m 61 #[.val (.long q1), .second, .val (.long q2), .second, .val (.long q3), .second, .val (.int p4), .val (.long (q1 &&& (9223372036854775807 : Int64))), .second, .val (.long (q2 &&& (9223372036854775807 : Int64))), .second, .val (.int (p4 &&& (3 : Int32))), .val (.long q3), .second, .unset, .unset, .unset] [(.int (3 : Int32)), (.int (p4 &&& (3 : Int32)))])) t → Steps p.tables e below (s₁.setTop (entryFrame m #[(.long q1), (.long q2), (.long q3), (.int p4)] maxLocals)) t := by
        intro t kt
        refine k27 t ?_
        show Steps p.tables e below (s₁.setTop (mkF m 43 #[.val (.long q1), .second, .val (.long q2), .second, .val (.long q3), .second, .val (.int p4), .val (.long (q1 &&& (9223372036854775807 : Int64))), .second, .val (.long (q2 &&& (9223372036854775807 : Int64))), .second, .val (.int (p4 &&& (3 : Int32))), .val (.long q3), .second, .unset, .unset, .unset] [(.int (2 : Int32)), (.int (p4 &&& (3 : Int32)))])) _
        refine XS.icmpYes X0.here hx rfl (pc0 := 43) (pc' := 58) rfl (hb hby at_43) rfl (feq hc5).2 (by decide) (by decide) ?_
        show Steps p.tables e below (s₁.setTop (mkF m 58 #[.val (.long q1), .second, .val (.long q2), .second, .val (.long q3), .second, .val (.int p4), .val (.long (q1 &&& (9223372036854775807 : Int64))), .second, .val (.long (q2 &&& (9223372036854775807 : Int64))), .second, .val (.int (p4 &&& (3 : Int32))), .val (.long q3), .second, .unset, .unset, .unset] [])) _
        refine XS.iload X0.here hx rfl (hb hby at_58) rfl ?_
        show Steps p.tables e below (s₁.setTop (mkF m 60 #[.val (.long q1), .second, .val (.long q2), .second, .val (.long q3), .second, .val (.int p4), .val (.long (q1 &&& (9223372036854775807 : Int64))), .second, .val (.long (q2 &&& (9223372036854775807 : Int64))), .second, .val (.int (p4 &&& (3 : Int32))), .val (.long q3), .second, .unset, .unset, .unset] [(.int (p4 &&& (3 : Int32)))])) _
        refine XS.iconst X0.here hx rfl (hb hby at_60) ?_
        exact kt
      by_cases hc9 : (p4 &&& (3 : Int32)) = (3 : Int32)
      ·
        obtain ⟨T54, h54, X54, e54, E54, A54, D54, -, st54⟩ := newO X0 hx hZ hown (hw _ (List.mem_of_getElem? (i := 1) rfl)) (hw _ (List.mem_of_getElem? (i := 2) rfl)) (hw _ (List.mem_of_getElem? (i := 3) rfl)) e0 (g := (mkF m 73 #[.val (.long q1), .second, .val (.long q2), .second, .val (.long q3), .second, .val (.int p4), .val (.long (q1 &&& (9223372036854775807 : Int64))), .second, .val (.long (q2 &&& (9223372036854775807 : Int64))), .second, .val (.int (p4 &&& (3 : Int32))), .val (.long (((q1 &&& (9223372036854775807 : Int64)) - (q2 &&& (9223372036854775807 : Int64))) - (1 : Int64))), .second, .unset, .unset, .unset] [])) rfl (hb hby at_73) (by decide) (by decide)
        obtain ⟨b54, g54⟩ : ∃ z, z = h0.size := ⟨_, rfl⟩
        rw [← g54] at A54 D54 st54
        have g_b54 : n0 ≤ b54 := Nat.le_trans Z0 (Nat.le_of_eq g54.symm)
        have Z55 := Nat.le_trans Z0 E54.1
        have F_maxBytes_b54 : Fld Z h54 b54 "com/example/castd/castd/Room" "maxBytes" "J" (.long (0 : Int64)) := D54 (Or.inr (hw _ (List.mem_of_getElem? (i := 11) rfl))) (ty := .long) (by decide)
        have F_bytes_b54 : Fld Z h54 b54 "com/example/castd/castd/Room" "bytes" "J" (.long (0 : Int64)) := D54 (Or.inl (hw _ (List.mem_of_getElem? (i := 18) rfl))) (ty := .long) (by decide)
        obtain ⟨v56, _, ⟨T56, L56, k56, n56⟩, -, X56, ⟨Lc56, hQ56, l56, y56, z56⟩, st56⟩ := X54.specialBack hx (y := (⟨"com/example/castd/castd/Room", "<init>", "(J)V"⟩ : MethodName)) rfl hown (mvT hZ (hw _ (List.mem_of_getElem? (i := 4) rfl))) (mvT hZ (hw _ (List.mem_of_getElem? (i := 5) rfl))) (mvT hZ (hw _ (List.mem_of_getElem? (i := 6) rfl))) (by decide) (backOf (W := 1) (own_rm1 l Z a0 hw [] b54 (q1 &&& (9223372036854775807 : Int64)) (0 : Int64) (0 : Int64) h54 n0 Z55 A54 F_maxBytes_b54 g_b54 F_bytes_b54) hZ (hw _ (List.mem_of_getElem? (i := 6) rfl)) (hw _ (List.mem_of_getElem? (i := 3) rfl)) (by decide) (by decide)) (g := (mkF m 79 #[.val (.long q1), .second, .val (.long q2), .second, .val (.long q3), .second, .val (.int p4), .val (.long (q1 &&& (9223372036854775807 : Int64))), .second, .val (.long (q2 &&& (9223372036854775807 : Int64))), .second, .val (.int (p4 &&& (3 : Int32))), .val (.long (((q1 &&& (9223372036854775807 : Int64)) - (q2 &&& (9223372036854775807 : Int64))) - (1 : Int64))), .second, .unset, .unset, .unset] [(.long (q1 &&& (9223372036854775807 : Int64))), (.ref b54), (.ref b54)])) rfl (by rw [hml]; rfl) (Steps.refl _) (a := b54) (argsL := [(.long (q1 &&& (9223372036854775807 : Int64)))]) (rest := [(.ref b54)]) (lenOf own_pd63 rfl) rfl (by show 2 * 0 + _ ≤ _; exact Nat.le_of_eq rfl) (hb hby at_79) (fun _ _ => ⟨rfl, e54, (by decide : 1 + 0 ≤ _), (by decide : 2 + 0 ≤ _)⟩)
        dsimp only [Pt.U, Pt.locs, Pt.cells, Pt.slots] at X56 l56 y56 z56 st56 hQ56
        subst l56 y56 z56
        obtain ⟨rfl, N56q, K56, Q56_0, Q56_1, Q56_2⟩ := hQ56
        have f57 := A54.keep K56
        have Z60 := Nat.le_trans Z55 K56.1
        have N61 := Fr.app N0 N56q
        obtain ⟨cq62, kq62, q62a, q62b, q62c⟩ := isOf hZ rfl Q56_0
        obtain ⟨v62, _, ⟨T62, L62, k62, n62⟩, -, X62, ⟨Lc62, hQ62, l62, y62, z62⟩, st62⟩ := X56.virtualBack hx (y := (⟨"com/example/castd/castd/Room", "add", "(J)V"⟩ : MethodName)) (z := (⟨"com/example/castd/castd/Room", "add", "(J)V"⟩ : MethodName)) hown (mvT hZ (hw _ (List.mem_of_getElem? (i := 12) rfl))) (mvT hZ (hw _ (List.mem_of_getElem? (i := 13) rfl))) (notFace_of_selects (args := #[]) (mvT hZ (hw _ (List.mem_of_getElem? (i := 15) rfl)))) (mvT hZ (hw _ (List.mem_of_getElem? (i := 15) rfl))) (mvT hZ (hw _ (List.mem_of_getElem? (i := 14) rfl))) (by decide) (backOf (W := 0) (own_rm3 l Z a0 hw [] b54 (q2 &&& (9223372036854775807 : Int64)) (0 : Int64) (q1 &&& (9223372036854775807 : Int64)) T56.heap n0 Z60 Q56_2 Q56_0 g_b54 Q56_1) hZ (hw _ (List.mem_of_getElem? (i := 16) rfl)) (hw _ (List.mem_of_getElem? (i := 3) rfl)) (by decide) (by decide)) q62a q62c (g := (mkF m 88 #[.val (.long q1), .second, .val (.long q2), .second, .val (.long q3), .second, .val (.int p4), .val (.long (q1 &&& (9223372036854775807 : Int64))), .second, .val (.long (q2 &&& (9223372036854775807 : Int64))), .second, .val (.int (p4 &&& (3 : Int32))), .val (.long (((q1 &&& (9223372036854775807 : Int64)) - (q2 &&& (9223372036854775807 : Int64))) - (1 : Int64))), .second, .val (.ref b54), .unset, .unset] [(.long (q2 &&& (9223372036854775807 : Int64))), (.ref b54)])) rfl (by rw [hml]; rfl) (Steps.refl _) (argsL := [(.long (q2 &&& (9223372036854775807 : Int64)))]) (rest := []) (lenOf own_pd63 rfl) rfl (by show 2 * 0 + _ ≤ _; exact Nat.le_of_eq rfl) (hb hby at_88) (fun _ _ => ⟨rfl, rfl, (by decide : 1 + 0 ≤ _), (by decide : 2 + 0 ≤ _)⟩)
        dsimp only [Pt.U, Pt.locs, Pt.cells, Pt.slots] at X62 l62 y62 z62 st62 hQ62
        subst l62 y62 z62
        obtain ⟨rfl, N62q, K62, Q62_0, Q62_1, Q62_2⟩ := hQ62
        have f63 := Q56_0.keep K62
        have Z66 := Nat.le_trans Z60 K62.1
        have N67 := Fr.app N61 N62q
        obtain ⟨cq68, kq68, q68a, q68b, q68c⟩ := isOf hZ rfl Q62_0
        obtain ⟨v68, _, ⟨T68, L68, k68, n68⟩, -, X68, ⟨Lc68, hQ68, l68, y68, z68⟩, st68⟩ := X62.virtualBack hx (y := (⟨"com/example/castd/castd/Room", "fits", "(J)Z"⟩ : MethodName)) (z := (⟨"com/example/castd/castd/Room", "fits", "(J)Z"⟩ : MethodName)) hown (mvT hZ (hw _ (List.mem_of_getElem? (i := 19) rfl))) (mvT hZ (hw _ (List.mem_of_getElem? (i := 20) rfl))) (notFace_of_selects (args := #[]) (mvT hZ (hw _ (List.mem_of_getElem? (i := 22) rfl)))) (mvT hZ (hw _ (List.mem_of_getElem? (i := 22) rfl))) (mvT hZ (hw _ (List.mem_of_getElem? (i := 21) rfl))) (by decide) (backOf (W := 0) (own_rm4 l Z a0 hw [] b54 (((q1 &&& (9223372036854775807 : Int64)) - (q2 &&& (9223372036854775807 : Int64))) - (1 : Int64)) (q1 &&& (9223372036854775807 : Int64)) ((0 : Int64) + (q2 &&& (9223372036854775807 : Int64))) T62.heap n0 Z66 Q62_2 Q62_1) hZ (hw _ (List.mem_of_getElem? (i := 23) rfl)) (hw _ (List.mem_of_getElem? (i := 3) rfl)) (by decide) (by decide)) q68a q68c (g := (mkF m 95 #[.val (.long q1), .second, .val (.long q2), .second, .val (.long q3), .second, .val (.int p4), .val (.long (q1 &&& (9223372036854775807 : Int64))), .second, .val (.long (q2 &&& (9223372036854775807 : Int64))), .second, .val (.int (p4 &&& (3 : Int32))), .val (.long (((q1 &&& (9223372036854775807 : Int64)) - (q2 &&& (9223372036854775807 : Int64))) - (1 : Int64))), .second, .val (.ref b54), .unset, .unset] [(.long (((q1 &&& (9223372036854775807 : Int64)) - (q2 &&& (9223372036854775807 : Int64))) - (1 : Int64))), (.ref b54)])) rfl (by rw [hml]; rfl) (Steps.refl _) (argsL := [(.long (((q1 &&& (9223372036854775807 : Int64)) - (q2 &&& (9223372036854775807 : Int64))) - (1 : Int64)))]) (rest := []) (lenOf own_pd64 rfl) rfl (by show 2 * 0 + _ ≤ _; exact Nat.le_of_eq rfl) (hb hby at_95) (fun _ _ => ⟨rfl, rfl, (by decide : 1 + 0 ≤ _), (by decide : 2 + 0 ≤ _)⟩)
        dsimp only [Pt.U, Pt.locs, Pt.cells, Pt.slots] at X68 l68 y68 z68 st68 hQ68
        subst l68 y68 z68
        obtain ⟨rfl, N68q, e68⟩ := hQ68
        have N69 := Fr.app N67 N68q
        obtain ⟨v70, _, ⟨T70, L70, k70, n70⟩, -, X70, ⟨Lc70, hQ70, l70, y70, z70⟩, st70⟩ := Jvm.LawKit.callS X68 hx (y := (⟨"com/example/castd/castd/RoomFitsPinLaw", "expectedFits", "(JJJ)Z"⟩ : MethodName)) hown (mvT hZ (hw _ (List.mem_of_getElem? (i := 24) rfl))) (mvT hZ (hw _ (List.mem_of_getElem? (i := 25) rfl))) (mvT hZ (hw _ (List.mem_of_getElem? (i := 26) rfl))) (mvT hZ (hw _ (List.mem_of_getElem? (i := 27) rfl))) (by decide) (backOf (W := 0) (own_rm5 l Z a0 hw [] (q1 &&& (9223372036854775807 : Int64)) (q2 &&& (9223372036854775807 : Int64)) (((q1 &&& (9223372036854775807 : Int64)) - (q2 &&& (9223372036854775807 : Int64))) - (1 : Int64)) T62.heap n0 Z66) hZ (hw _ (List.mem_of_getElem? (i := 27) rfl)) (hw _ (List.mem_of_getElem? (i := 26) rfl)) (by decide) (by decide)) (g := (mkF m 106 #[.val (.long q1), .second, .val (.long q2), .second, .val (.long q3), .second, .val (.int p4), .val (.long (q1 &&& (9223372036854775807 : Int64))), .second, .val (.long (q2 &&& (9223372036854775807 : Int64))), .second, .val (.int (p4 &&& (3 : Int32))), .val (.long (((q1 &&& (9223372036854775807 : Int64)) - (q2 &&& (9223372036854775807 : Int64))) - (1 : Int64))), .second, .val (.ref b54), .val (.int (own_f4 (((q1 &&& (9223372036854775807 : Int64)) - (q2 &&& (9223372036854775807 : Int64))) - (1 : Int64)) (q1 &&& (9223372036854775807 : Int64)) ((0 : Int64) + (q2 &&& (9223372036854775807 : Int64))))), .unset] [(.long (((q1 &&& (9223372036854775807 : Int64)) - (q2 &&& (9223372036854775807 : Int64))) - (1 : Int64))), (.long (q2 &&& (9223372036854775807 : Int64))), (.long (q1 &&& (9223372036854775807 : Int64)))])) rfl (by rw [hml]; rfl) (argsL := [(.long (q1 &&& (9223372036854775807 : Int64))), (.long (q2 &&& (9223372036854775807 : Int64))), (.long (((q1 &&& (9223372036854775807 : Int64)) - (q2 &&& (9223372036854775807 : Int64))) - (1 : Int64)))]) (rest := []) (lenOf own_pd65 rfl) rfl (by show 2 * 0 + _ ≤ _; exact Nat.le_of_eq rfl) (hb hby at_106) (fun _ _ => ⟨rfl, e68, (by decide : 1 + 0 ≤ _), (by decide : 2 + 0 ≤ _)⟩)
        dsimp only [Pt.U, Pt.locs, Pt.cells, Pt.slots] at X70 l70 y70 z70 st70 hQ70
        subst l70 y70 z70
        obtain ⟨rfl, N70q, e70⟩ := hQ70
        have N71 := Fr.app N69 N70q
        have k72 : ∀ t, Steps p.tables e below (T70.setTop (mkF m 115 #[.val (.long q1), .second, .val (.long q2), .second, .val (.long q3), .second, .val (.int p4), .val (.long (q1 &&& (9223372036854775807 : Int64))), .second, .val (.long (q2 &&& (9223372036854775807 : Int64))), .second, .val (.int (p4 &&& (3 : Int32))), .val (.long (((q1 &&& (9223372036854775807 : Int64)) - (q2 &&& (9223372036854775807 : Int64))) - (1 : Int64))), .second, .val (.ref b54), .val (.int (own_f4 (((q1 &&& (9223372036854775807 : Int64)) - (q2 &&& (9223372036854775807 : Int64))) - (1 : Int64)) (q1 &&& (9223372036854775807 : Int64)) ((0 : Int64) + (q2 &&& (9223372036854775807 : Int64))))), .val (.int (own_f5 (q1 &&& (9223372036854775807 : Int64)) (q2 &&& (9223372036854775807 : Int64)) (((q1 &&& (9223372036854775807 : Int64)) - (q2 &&& (9223372036854775807 : Int64))) - (1 : Int64))))] [(.int (own_f5 (q1 &&& (9223372036854775807 : Int64)) (q2 &&& (9223372036854775807 : Int64)) (((q1 &&& (9223372036854775807 : Int64)) - (q2 &&& (9223372036854775807 : Int64))) - (1 : Int64)))), (.int (own_f4 (((q1 &&& (9223372036854775807 : Int64)) - (q2 &&& (9223372036854775807 : Int64))) - (1 : Int64)) (q1 &&& (9223372036854775807 : Int64)) ((0 : Int64) + (q2 &&& (9223372036854775807 : Int64)))))])) t → Steps p.tables e below (s₁.setTop (entryFrame m #[(.long q1), (.long q2), (.long q3), (.int p4)] maxLocals)) t := by
          intro t kt
          refine k53 t ?_
          show Steps p.tables e below (s₁.setTop (mkF m 61 #[.val (.long q1), .second, .val (.long q2), .second, .val (.long q3), .second, .val (.int p4), .val (.long (q1 &&& (9223372036854775807 : Int64))), .second, .val (.long (q2 &&& (9223372036854775807 : Int64))), .second, .val (.int (p4 &&& (3 : Int32))), .val (.long q3), .second, .unset, .unset, .unset] [(.int (3 : Int32)), (.int (p4 &&& (3 : Int32)))])) _
          refine XS.icmpNo X0.here hx rfl (hb hby at_61) rfl (teq hc9).2 ?_
          show Steps p.tables e below (s₁.setTop (mkF m 64 #[.val (.long q1), .second, .val (.long q2), .second, .val (.long q3), .second, .val (.int p4), .val (.long (q1 &&& (9223372036854775807 : Int64))), .second, .val (.long (q2 &&& (9223372036854775807 : Int64))), .second, .val (.int (p4 &&& (3 : Int32))), .val (.long q3), .second, .unset, .unset, .unset] [])) _
          refine XS.lload X0.here hx rfl (hb hby at_64) rfl ?_
          show Steps p.tables e below (s₁.setTop (mkF m 66 #[.val (.long q1), .second, .val (.long q2), .second, .val (.long q3), .second, .val (.int p4), .val (.long (q1 &&& (9223372036854775807 : Int64))), .second, .val (.long (q2 &&& (9223372036854775807 : Int64))), .second, .val (.int (p4 &&& (3 : Int32))), .val (.long q3), .second, .unset, .unset, .unset] [(.long (q1 &&& (9223372036854775807 : Int64)))])) _
          refine XS.lload X0.here hx rfl (hb hby at_66) rfl ?_
          show Steps p.tables e below (s₁.setTop (mkF m 68 #[.val (.long q1), .second, .val (.long q2), .second, .val (.long q3), .second, .val (.int p4), .val (.long (q1 &&& (9223372036854775807 : Int64))), .second, .val (.long (q2 &&& (9223372036854775807 : Int64))), .second, .val (.int (p4 &&& (3 : Int32))), .val (.long q3), .second, .unset, .unset, .unset] [(.long (q2 &&& (9223372036854775807 : Int64))), (.long (q1 &&& (9223372036854775807 : Int64)))])) _
          refine XS.lsub X0.here hx rfl (hb hby at_68) rfl ?_
          show Steps p.tables e below (s₁.setTop (mkF m 69 #[.val (.long q1), .second, .val (.long q2), .second, .val (.long q3), .second, .val (.int p4), .val (.long (q1 &&& (9223372036854775807 : Int64))), .second, .val (.long (q2 &&& (9223372036854775807 : Int64))), .second, .val (.int (p4 &&& (3 : Int32))), .val (.long q3), .second, .unset, .unset, .unset] [(.long ((q1 &&& (9223372036854775807 : Int64)) - (q2 &&& (9223372036854775807 : Int64))))])) _
          refine XS.lconst X0.here hx rfl (hb hby at_69) ?_
          show Steps p.tables e below (s₁.setTop (mkF m 70 #[.val (.long q1), .second, .val (.long q2), .second, .val (.long q3), .second, .val (.int p4), .val (.long (q1 &&& (9223372036854775807 : Int64))), .second, .val (.long (q2 &&& (9223372036854775807 : Int64))), .second, .val (.int (p4 &&& (3 : Int32))), .val (.long q3), .second, .unset, .unset, .unset] [(.long (1 : Int64)), (.long ((q1 &&& (9223372036854775807 : Int64)) - (q2 &&& (9223372036854775807 : Int64))))])) _
          refine XS.lsub X0.here hx rfl (hb hby at_70) rfl ?_
          show Steps p.tables e below (s₁.setTop (mkF m 71 #[.val (.long q1), .second, .val (.long q2), .second, .val (.long q3), .second, .val (.int p4), .val (.long (q1 &&& (9223372036854775807 : Int64))), .second, .val (.long (q2 &&& (9223372036854775807 : Int64))), .second, .val (.int (p4 &&& (3 : Int32))), .val (.long q3), .second, .unset, .unset, .unset] [(.long (((q1 &&& (9223372036854775807 : Int64)) - (q2 &&& (9223372036854775807 : Int64))) - (1 : Int64)))])) _
          refine XS.lstore X0.here hx rfl (hb hby at_71) rfl (l' := #[.val (.long q1), .second, .val (.long q2), .second, .val (.long q3), .second, .val (.int p4), .val (.long (q1 &&& (9223372036854775807 : Int64))), .second, .val (.long (q2 &&& (9223372036854775807 : Int64))), .second, .val (.int (p4 &&& (3 : Int32))), .val (.long (((q1 &&& (9223372036854775807 : Int64)) - (q2 &&& (9223372036854775807 : Int64))) - (1 : Int64))), .second, .unset, .unset, .unset]) rfl ?_
          show Steps p.tables e below (s₁.setTop (mkF m 73 #[.val (.long q1), .second, .val (.long q2), .second, .val (.long q3), .second, .val (.int p4), .val (.long (q1 &&& (9223372036854775807 : Int64))), .second, .val (.long (q2 &&& (9223372036854775807 : Int64))), .second, .val (.int (p4 &&& (3 : Int32))), .val (.long (((q1 &&& (9223372036854775807 : Int64)) - (q2 &&& (9223372036854775807 : Int64))) - (1 : Int64))), .second, .unset, .unset, .unset] [])) _
          refine st54 _ ?_
          show Steps p.tables e below (T54.setTop (mkF m 76 #[.val (.long q1), .second, .val (.long q2), .second, .val (.long q3), .second, .val (.int p4), .val (.long (q1 &&& (9223372036854775807 : Int64))), .second, .val (.long (q2 &&& (9223372036854775807 : Int64))), .second, .val (.int (p4 &&& (3 : Int32))), .val (.long (((q1 &&& (9223372036854775807 : Int64)) - (q2 &&& (9223372036854775807 : Int64))) - (1 : Int64))), .second, .unset, .unset, .unset] [(.ref b54)])) _
          refine XS.dup X54.here hx rfl (hb hby at_76) rfl rfl ?_
          show Steps p.tables e below (T54.setTop (mkF m 77 #[.val (.long q1), .second, .val (.long q2), .second, .val (.long q3), .second, .val (.int p4), .val (.long (q1 &&& (9223372036854775807 : Int64))), .second, .val (.long (q2 &&& (9223372036854775807 : Int64))), .second, .val (.int (p4 &&& (3 : Int32))), .val (.long (((q1 &&& (9223372036854775807 : Int64)) - (q2 &&& (9223372036854775807 : Int64))) - (1 : Int64))), .second, .unset, .unset, .unset] [(.ref b54), (.ref b54)])) _
          refine XS.lload X54.here hx rfl (hb hby at_77) rfl ?_
          show Steps p.tables e below (T54.setTop (mkF m 79 #[.val (.long q1), .second, .val (.long q2), .second, .val (.long q3), .second, .val (.int p4), .val (.long (q1 &&& (9223372036854775807 : Int64))), .second, .val (.long (q2 &&& (9223372036854775807 : Int64))), .second, .val (.int (p4 &&& (3 : Int32))), .val (.long (((q1 &&& (9223372036854775807 : Int64)) - (q2 &&& (9223372036854775807 : Int64))) - (1 : Int64))), .second, .unset, .unset, .unset] [(.long (q1 &&& (9223372036854775807 : Int64))), (.ref b54), (.ref b54)])) _
          refine st56.trans ?_
          show Steps p.tables e below (T56.setTop (mkF m 82 #[.val (.long q1), .second, .val (.long q2), .second, .val (.long q3), .second, .val (.int p4), .val (.long (q1 &&& (9223372036854775807 : Int64))), .second, .val (.long (q2 &&& (9223372036854775807 : Int64))), .second, .val (.int (p4 &&& (3 : Int32))), .val (.long (((q1 &&& (9223372036854775807 : Int64)) - (q2 &&& (9223372036854775807 : Int64))) - (1 : Int64))), .second, .unset, .unset, .unset] [(.ref b54)])) _
          refine XS.astore X56.here hx rfl (hb hby at_82) rfl rfl (l' := #[.val (.long q1), .second, .val (.long q2), .second, .val (.long q3), .second, .val (.int p4), .val (.long (q1 &&& (9223372036854775807 : Int64))), .second, .val (.long (q2 &&& (9223372036854775807 : Int64))), .second, .val (.int (p4 &&& (3 : Int32))), .val (.long (((q1 &&& (9223372036854775807 : Int64)) - (q2 &&& (9223372036854775807 : Int64))) - (1 : Int64))), .second, .val (.ref b54), .unset, .unset]) rfl ?_
          show Steps p.tables e below (T56.setTop (mkF m 84 #[.val (.long q1), .second, .val (.long q2), .second, .val (.long q3), .second, .val (.int p4), .val (.long (q1 &&& (9223372036854775807 : Int64))), .second, .val (.long (q2 &&& (9223372036854775807 : Int64))), .second, .val (.int (p4 &&& (3 : Int32))), .val (.long (((q1 &&& (9223372036854775807 : Int64)) - (q2 &&& (9223372036854775807 : Int64))) - (1 : Int64))), .second, .val (.ref b54), .unset, .unset] [])) _
          refine XS.aload X56.here hx rfl (hb hby at_84) rfl rfl ?_
          show Steps p.tables e below (T56.setTop (mkF m 86 #[.val (.long q1), .second, .val (.long q2), .second, .val (.long q3), .second, .val (.int p4), .val (.long (q1 &&& (9223372036854775807 : Int64))), .second, .val (.long (q2 &&& (9223372036854775807 : Int64))), .second, .val (.int (p4 &&& (3 : Int32))), .val (.long (((q1 &&& (9223372036854775807 : Int64)) - (q2 &&& (9223372036854775807 : Int64))) - (1 : Int64))), .second, .val (.ref b54), .unset, .unset] [(.ref b54)])) _
          refine XS.lload X56.here hx rfl (hb hby at_86) rfl ?_
          show Steps p.tables e below (T56.setTop (mkF m 88 #[.val (.long q1), .second, .val (.long q2), .second, .val (.long q3), .second, .val (.int p4), .val (.long (q1 &&& (9223372036854775807 : Int64))), .second, .val (.long (q2 &&& (9223372036854775807 : Int64))), .second, .val (.int (p4 &&& (3 : Int32))), .val (.long (((q1 &&& (9223372036854775807 : Int64)) - (q2 &&& (9223372036854775807 : Int64))) - (1 : Int64))), .second, .val (.ref b54), .unset, .unset] [(.long (q2 &&& (9223372036854775807 : Int64))), (.ref b54)])) _
          refine st62.trans ?_
          show Steps p.tables e below (T62.setTop (mkF m 91 #[.val (.long q1), .second, .val (.long q2), .second, .val (.long q3), .second, .val (.int p4), .val (.long (q1 &&& (9223372036854775807 : Int64))), .second, .val (.long (q2 &&& (9223372036854775807 : Int64))), .second, .val (.int (p4 &&& (3 : Int32))), .val (.long (((q1 &&& (9223372036854775807 : Int64)) - (q2 &&& (9223372036854775807 : Int64))) - (1 : Int64))), .second, .val (.ref b54), .unset, .unset] [])) _
          refine XS.aload X62.here hx rfl (hb hby at_91) rfl rfl ?_
          show Steps p.tables e below (T62.setTop (mkF m 93 #[.val (.long q1), .second, .val (.long q2), .second, .val (.long q3), .second, .val (.int p4), .val (.long (q1 &&& (9223372036854775807 : Int64))), .second, .val (.long (q2 &&& (9223372036854775807 : Int64))), .second, .val (.int (p4 &&& (3 : Int32))), .val (.long (((q1 &&& (9223372036854775807 : Int64)) - (q2 &&& (9223372036854775807 : Int64))) - (1 : Int64))), .second, .val (.ref b54), .unset, .unset] [(.ref b54)])) _
          refine XS.lload X62.here hx rfl (hb hby at_93) rfl ?_
          show Steps p.tables e below (T62.setTop (mkF m 95 #[.val (.long q1), .second, .val (.long q2), .second, .val (.long q3), .second, .val (.int p4), .val (.long (q1 &&& (9223372036854775807 : Int64))), .second, .val (.long (q2 &&& (9223372036854775807 : Int64))), .second, .val (.int (p4 &&& (3 : Int32))), .val (.long (((q1 &&& (9223372036854775807 : Int64)) - (q2 &&& (9223372036854775807 : Int64))) - (1 : Int64))), .second, .val (.ref b54), .unset, .unset] [(.long (((q1 &&& (9223372036854775807 : Int64)) - (q2 &&& (9223372036854775807 : Int64))) - (1 : Int64))), (.ref b54)])) _
          refine st68.trans ?_
          show Steps p.tables e below (T68.setTop (mkF m 98 #[.val (.long q1), .second, .val (.long q2), .second, .val (.long q3), .second, .val (.int p4), .val (.long (q1 &&& (9223372036854775807 : Int64))), .second, .val (.long (q2 &&& (9223372036854775807 : Int64))), .second, .val (.int (p4 &&& (3 : Int32))), .val (.long (((q1 &&& (9223372036854775807 : Int64)) - (q2 &&& (9223372036854775807 : Int64))) - (1 : Int64))), .second, .val (.ref b54), .unset, .unset] [(.int (own_f4 (((q1 &&& (9223372036854775807 : Int64)) - (q2 &&& (9223372036854775807 : Int64))) - (1 : Int64)) (q1 &&& (9223372036854775807 : Int64)) ((0 : Int64) + (q2 &&& (9223372036854775807 : Int64)))))])) _
          refine XS.istore X68.here hx rfl (hb hby at_98) rfl (l' := #[.val (.long q1), .second, .val (.long q2), .second, .val (.long q3), .second, .val (.int p4), .val (.long (q1 &&& (9223372036854775807 : Int64))), .second, .val (.long (q2 &&& (9223372036854775807 : Int64))), .second, .val (.int (p4 &&& (3 : Int32))), .val (.long (((q1 &&& (9223372036854775807 : Int64)) - (q2 &&& (9223372036854775807 : Int64))) - (1 : Int64))), .second, .val (.ref b54), .val (.int (own_f4 (((q1 &&& (9223372036854775807 : Int64)) - (q2 &&& (9223372036854775807 : Int64))) - (1 : Int64)) (q1 &&& (9223372036854775807 : Int64)) ((0 : Int64) + (q2 &&& (9223372036854775807 : Int64))))), .unset]) rfl ?_
          show Steps p.tables e below (T68.setTop (mkF m 100 #[.val (.long q1), .second, .val (.long q2), .second, .val (.long q3), .second, .val (.int p4), .val (.long (q1 &&& (9223372036854775807 : Int64))), .second, .val (.long (q2 &&& (9223372036854775807 : Int64))), .second, .val (.int (p4 &&& (3 : Int32))), .val (.long (((q1 &&& (9223372036854775807 : Int64)) - (q2 &&& (9223372036854775807 : Int64))) - (1 : Int64))), .second, .val (.ref b54), .val (.int (own_f4 (((q1 &&& (9223372036854775807 : Int64)) - (q2 &&& (9223372036854775807 : Int64))) - (1 : Int64)) (q1 &&& (9223372036854775807 : Int64)) ((0 : Int64) + (q2 &&& (9223372036854775807 : Int64))))), .unset] [])) _
          refine XS.lload X68.here hx rfl (hb hby at_100) rfl ?_
          show Steps p.tables e below (T68.setTop (mkF m 102 #[.val (.long q1), .second, .val (.long q2), .second, .val (.long q3), .second, .val (.int p4), .val (.long (q1 &&& (9223372036854775807 : Int64))), .second, .val (.long (q2 &&& (9223372036854775807 : Int64))), .second, .val (.int (p4 &&& (3 : Int32))), .val (.long (((q1 &&& (9223372036854775807 : Int64)) - (q2 &&& (9223372036854775807 : Int64))) - (1 : Int64))), .second, .val (.ref b54), .val (.int (own_f4 (((q1 &&& (9223372036854775807 : Int64)) - (q2 &&& (9223372036854775807 : Int64))) - (1 : Int64)) (q1 &&& (9223372036854775807 : Int64)) ((0 : Int64) + (q2 &&& (9223372036854775807 : Int64))))), .unset] [(.long (q1 &&& (9223372036854775807 : Int64)))])) _
          refine XS.lload X68.here hx rfl (hb hby at_102) rfl ?_
          show Steps p.tables e below (T68.setTop (mkF m 104 #[.val (.long q1), .second, .val (.long q2), .second, .val (.long q3), .second, .val (.int p4), .val (.long (q1 &&& (9223372036854775807 : Int64))), .second, .val (.long (q2 &&& (9223372036854775807 : Int64))), .second, .val (.int (p4 &&& (3 : Int32))), .val (.long (((q1 &&& (9223372036854775807 : Int64)) - (q2 &&& (9223372036854775807 : Int64))) - (1 : Int64))), .second, .val (.ref b54), .val (.int (own_f4 (((q1 &&& (9223372036854775807 : Int64)) - (q2 &&& (9223372036854775807 : Int64))) - (1 : Int64)) (q1 &&& (9223372036854775807 : Int64)) ((0 : Int64) + (q2 &&& (9223372036854775807 : Int64))))), .unset] [(.long (q2 &&& (9223372036854775807 : Int64))), (.long (q1 &&& (9223372036854775807 : Int64)))])) _
          refine XS.lload X68.here hx rfl (hb hby at_104) rfl ?_
          show Steps p.tables e below (T68.setTop (mkF m 106 #[.val (.long q1), .second, .val (.long q2), .second, .val (.long q3), .second, .val (.int p4), .val (.long (q1 &&& (9223372036854775807 : Int64))), .second, .val (.long (q2 &&& (9223372036854775807 : Int64))), .second, .val (.int (p4 &&& (3 : Int32))), .val (.long (((q1 &&& (9223372036854775807 : Int64)) - (q2 &&& (9223372036854775807 : Int64))) - (1 : Int64))), .second, .val (.ref b54), .val (.int (own_f4 (((q1 &&& (9223372036854775807 : Int64)) - (q2 &&& (9223372036854775807 : Int64))) - (1 : Int64)) (q1 &&& (9223372036854775807 : Int64)) ((0 : Int64) + (q2 &&& (9223372036854775807 : Int64))))), .unset] [(.long (((q1 &&& (9223372036854775807 : Int64)) - (q2 &&& (9223372036854775807 : Int64))) - (1 : Int64))), (.long (q2 &&& (9223372036854775807 : Int64))), (.long (q1 &&& (9223372036854775807 : Int64)))])) _
          refine st70 _ ?_
          show Steps p.tables e below (T70.setTop (mkF m 109 #[.val (.long q1), .second, .val (.long q2), .second, .val (.long q3), .second, .val (.int p4), .val (.long (q1 &&& (9223372036854775807 : Int64))), .second, .val (.long (q2 &&& (9223372036854775807 : Int64))), .second, .val (.int (p4 &&& (3 : Int32))), .val (.long (((q1 &&& (9223372036854775807 : Int64)) - (q2 &&& (9223372036854775807 : Int64))) - (1 : Int64))), .second, .val (.ref b54), .val (.int (own_f4 (((q1 &&& (9223372036854775807 : Int64)) - (q2 &&& (9223372036854775807 : Int64))) - (1 : Int64)) (q1 &&& (9223372036854775807 : Int64)) ((0 : Int64) + (q2 &&& (9223372036854775807 : Int64))))), .unset] [(.int (own_f5 (q1 &&& (9223372036854775807 : Int64)) (q2 &&& (9223372036854775807 : Int64)) (((q1 &&& (9223372036854775807 : Int64)) - (q2 &&& (9223372036854775807 : Int64))) - (1 : Int64))))])) _
          refine XS.istore X70.here hx rfl (hb hby at_109) rfl (l' := #[.val (.long q1), .second, .val (.long q2), .second, .val (.long q3), .second, .val (.int p4), .val (.long (q1 &&& (9223372036854775807 : Int64))), .second, .val (.long (q2 &&& (9223372036854775807 : Int64))), .second, .val (.int (p4 &&& (3 : Int32))), .val (.long (((q1 &&& (9223372036854775807 : Int64)) - (q2 &&& (9223372036854775807 : Int64))) - (1 : Int64))), .second, .val (.ref b54), .val (.int (own_f4 (((q1 &&& (9223372036854775807 : Int64)) - (q2 &&& (9223372036854775807 : Int64))) - (1 : Int64)) (q1 &&& (9223372036854775807 : Int64)) ((0 : Int64) + (q2 &&& (9223372036854775807 : Int64))))), .val (.int (own_f5 (q1 &&& (9223372036854775807 : Int64)) (q2 &&& (9223372036854775807 : Int64)) (((q1 &&& (9223372036854775807 : Int64)) - (q2 &&& (9223372036854775807 : Int64))) - (1 : Int64))))]) rfl ?_
          show Steps p.tables e below (T70.setTop (mkF m 111 #[.val (.long q1), .second, .val (.long q2), .second, .val (.long q3), .second, .val (.int p4), .val (.long (q1 &&& (9223372036854775807 : Int64))), .second, .val (.long (q2 &&& (9223372036854775807 : Int64))), .second, .val (.int (p4 &&& (3 : Int32))), .val (.long (((q1 &&& (9223372036854775807 : Int64)) - (q2 &&& (9223372036854775807 : Int64))) - (1 : Int64))), .second, .val (.ref b54), .val (.int (own_f4 (((q1 &&& (9223372036854775807 : Int64)) - (q2 &&& (9223372036854775807 : Int64))) - (1 : Int64)) (q1 &&& (9223372036854775807 : Int64)) ((0 : Int64) + (q2 &&& (9223372036854775807 : Int64))))), .val (.int (own_f5 (q1 &&& (9223372036854775807 : Int64)) (q2 &&& (9223372036854775807 : Int64)) (((q1 &&& (9223372036854775807 : Int64)) - (q2 &&& (9223372036854775807 : Int64))) - (1 : Int64))))] [])) _
          refine XS.iload X70.here hx rfl (hb hby at_111) rfl ?_
          show Steps p.tables e below (T70.setTop (mkF m 113 #[.val (.long q1), .second, .val (.long q2), .second, .val (.long q3), .second, .val (.int p4), .val (.long (q1 &&& (9223372036854775807 : Int64))), .second, .val (.long (q2 &&& (9223372036854775807 : Int64))), .second, .val (.int (p4 &&& (3 : Int32))), .val (.long (((q1 &&& (9223372036854775807 : Int64)) - (q2 &&& (9223372036854775807 : Int64))) - (1 : Int64))), .second, .val (.ref b54), .val (.int (own_f4 (((q1 &&& (9223372036854775807 : Int64)) - (q2 &&& (9223372036854775807 : Int64))) - (1 : Int64)) (q1 &&& (9223372036854775807 : Int64)) ((0 : Int64) + (q2 &&& (9223372036854775807 : Int64))))), .val (.int (own_f5 (q1 &&& (9223372036854775807 : Int64)) (q2 &&& (9223372036854775807 : Int64)) (((q1 &&& (9223372036854775807 : Int64)) - (q2 &&& (9223372036854775807 : Int64))) - (1 : Int64))))] [(.int (own_f4 (((q1 &&& (9223372036854775807 : Int64)) - (q2 &&& (9223372036854775807 : Int64))) - (1 : Int64)) (q1 &&& (9223372036854775807 : Int64)) ((0 : Int64) + (q2 &&& (9223372036854775807 : Int64)))))])) _
          refine XS.iload X70.here hx rfl (hb hby at_113) rfl ?_
          exact kt
        by_cases hc10 : (own_f4 (((q1 &&& (9223372036854775807 : Int64)) - (q2 &&& (9223372036854775807 : Int64))) - (1 : Int64)) (q1 &&& (9223372036854775807 : Int64)) ((0 : Int64) + (q2 &&& (9223372036854775807 : Int64)))) = (own_f5 (q1 &&& (9223372036854775807 : Int64)) (q2 &&& (9223372036854775807 : Int64)) (((q1 &&& (9223372036854775807 : Int64)) - (q2 &&& (9223372036854775807 : Int64))) - (1 : Int64)))
        ·
          obtain ⟨cq73, kq73, q73a, q73b, q73c⟩ := isOf hZ e70 Q62_0
          obtain ⟨v73, _, ⟨T73, L73, k73, n73⟩, -, X73, ⟨Lc73, hQ73, l73, y73, z73⟩, st73⟩ := X70.virtualBack hx (y := (⟨"com/example/castd/castd/Room", "bytes", "()J"⟩ : MethodName)) (z := (⟨"com/example/castd/castd/Room", "bytes", "()J"⟩ : MethodName)) hown (mvT hZ (hw _ (List.mem_of_getElem? (i := 28) rfl))) (mvT hZ (hw _ (List.mem_of_getElem? (i := 29) rfl))) (notFace_of_selects (args := #[]) (mvT hZ (hw _ (List.mem_of_getElem? (i := 31) rfl)))) (mvT hZ (hw _ (List.mem_of_getElem? (i := 31) rfl))) (mvT hZ (hw _ (List.mem_of_getElem? (i := 30) rfl))) (by decide) (backOf (W := 0) (own_rm6 l Z a0 hw [] b54 ((0 : Int64) + (q2 &&& (9223372036854775807 : Int64))) T62.heap n0 Z66 Q62_1) hZ (hw _ (List.mem_of_getElem? (i := 32) rfl)) (hw _ (List.mem_of_getElem? (i := 3) rfl)) (by decide) (by decide)) q73a q73c (g := (mkF m 120 #[.val (.long q1), .second, .val (.long q2), .second, .val (.long q3), .second, .val (.int p4), .val (.long (q1 &&& (9223372036854775807 : Int64))), .second, .val (.long (q2 &&& (9223372036854775807 : Int64))), .second, .val (.int (p4 &&& (3 : Int32))), .val (.long (((q1 &&& (9223372036854775807 : Int64)) - (q2 &&& (9223372036854775807 : Int64))) - (1 : Int64))), .second, .val (.ref b54), .val (.int (own_f4 (((q1 &&& (9223372036854775807 : Int64)) - (q2 &&& (9223372036854775807 : Int64))) - (1 : Int64)) (q1 &&& (9223372036854775807 : Int64)) ((0 : Int64) + (q2 &&& (9223372036854775807 : Int64))))), .val (.int (own_f5 (q1 &&& (9223372036854775807 : Int64)) (q2 &&& (9223372036854775807 : Int64)) (((q1 &&& (9223372036854775807 : Int64)) - (q2 &&& (9223372036854775807 : Int64))) - (1 : Int64))))] [(.ref b54)])) rfl (by rw [hml]; rfl) (Steps.refl _) (argsL := []) (rest := []) (lenOf own_pd66 rfl) rfl (by show 2 * 0 + _ ≤ _; exact Nat.le_of_eq rfl) (hb hby at_120) (fun _ _ => ⟨rfl, e70, (by decide : 1 + 0 ≤ _), (by decide : 2 + 0 ≤ _)⟩)
          dsimp only [Pt.U, Pt.locs, Pt.cells, Pt.slots] at X73 l73 y73 z73 st73 hQ73
          subst l73 y73 z73
          obtain ⟨hv73, N73q, e73⟩ := hQ73
          have N74 := Fr.app N71 N73q
          rw [show (own_f6 ((0 : Int64) + (q2 &&& (9223372036854775807 : Int64)))) = ((0 : Int64) + (q2 &&& (9223372036854775807 : Int64))) from by first | rfl | decide | simp [own_f6]] at hv73
          subst hv73
          have k75 : ∀ t, Steps p.tables e below (T73.setTop (mkF m 126 #[.val (.long q1), .second, .val (.long q2), .second, .val (.long q3), .second, .val (.int p4), .val (.long (q1 &&& (9223372036854775807 : Int64))), .second, .val (.long (q2 &&& (9223372036854775807 : Int64))), .second, .val (.int (p4 &&& (3 : Int32))), .val (.long (((q1 &&& (9223372036854775807 : Int64)) - (q2 &&& (9223372036854775807 : Int64))) - (1 : Int64))), .second, .val (.ref b54), .val (.int (own_f4 (((q1 &&& (9223372036854775807 : Int64)) - (q2 &&& (9223372036854775807 : Int64))) - (1 : Int64)) (q1 &&& (9223372036854775807 : Int64)) ((0 : Int64) + (q2 &&& (9223372036854775807 : Int64))))), .val (.int (own_f5 (q1 &&& (9223372036854775807 : Int64)) (q2 &&& (9223372036854775807 : Int64)) (((q1 &&& (9223372036854775807 : Int64)) - (q2 &&& (9223372036854775807 : Int64))) - (1 : Int64))))] [(.int (lcmpW ((0 : Int64) + (q2 &&& (9223372036854775807 : Int64))) (q2 &&& (9223372036854775807 : Int64))))])) t → Steps p.tables e below (s₁.setTop (entryFrame m #[(.long q1), (.long q2), (.long q3), (.int p4)] maxLocals)) t := by
            intro t kt
            refine k72 t ?_
            show Steps p.tables e below (T70.setTop (mkF m 115 #[.val (.long q1), .second, .val (.long q2), .second, .val (.long q3), .second, .val (.int p4), .val (.long (q1 &&& (9223372036854775807 : Int64))), .second, .val (.long (q2 &&& (9223372036854775807 : Int64))), .second, .val (.int (p4 &&& (3 : Int32))), .val (.long (((q1 &&& (9223372036854775807 : Int64)) - (q2 &&& (9223372036854775807 : Int64))) - (1 : Int64))), .second, .val (.ref b54), .val (.int (own_f4 (((q1 &&& (9223372036854775807 : Int64)) - (q2 &&& (9223372036854775807 : Int64))) - (1 : Int64)) (q1 &&& (9223372036854775807 : Int64)) ((0 : Int64) + (q2 &&& (9223372036854775807 : Int64))))), .val (.int (own_f5 (q1 &&& (9223372036854775807 : Int64)) (q2 &&& (9223372036854775807 : Int64)) (((q1 &&& (9223372036854775807 : Int64)) - (q2 &&& (9223372036854775807 : Int64))) - (1 : Int64))))] [(.int (own_f5 (q1 &&& (9223372036854775807 : Int64)) (q2 &&& (9223372036854775807 : Int64)) (((q1 &&& (9223372036854775807 : Int64)) - (q2 &&& (9223372036854775807 : Int64))) - (1 : Int64)))), (.int (own_f4 (((q1 &&& (9223372036854775807 : Int64)) - (q2 &&& (9223372036854775807 : Int64))) - (1 : Int64)) (q1 &&& (9223372036854775807 : Int64)) ((0 : Int64) + (q2 &&& (9223372036854775807 : Int64)))))])) _
            refine XS.icmpNo X70.here hx rfl (hb hby at_115) rfl (teq hc10).2 ?_
            show Steps p.tables e below (T70.setTop (mkF m 118 #[.val (.long q1), .second, .val (.long q2), .second, .val (.long q3), .second, .val (.int p4), .val (.long (q1 &&& (9223372036854775807 : Int64))), .second, .val (.long (q2 &&& (9223372036854775807 : Int64))), .second, .val (.int (p4 &&& (3 : Int32))), .val (.long (((q1 &&& (9223372036854775807 : Int64)) - (q2 &&& (9223372036854775807 : Int64))) - (1 : Int64))), .second, .val (.ref b54), .val (.int (own_f4 (((q1 &&& (9223372036854775807 : Int64)) - (q2 &&& (9223372036854775807 : Int64))) - (1 : Int64)) (q1 &&& (9223372036854775807 : Int64)) ((0 : Int64) + (q2 &&& (9223372036854775807 : Int64))))), .val (.int (own_f5 (q1 &&& (9223372036854775807 : Int64)) (q2 &&& (9223372036854775807 : Int64)) (((q1 &&& (9223372036854775807 : Int64)) - (q2 &&& (9223372036854775807 : Int64))) - (1 : Int64))))] [])) _
            refine XS.aload X70.here hx rfl (hb hby at_118) rfl rfl ?_
            show Steps p.tables e below (T70.setTop (mkF m 120 #[.val (.long q1), .second, .val (.long q2), .second, .val (.long q3), .second, .val (.int p4), .val (.long (q1 &&& (9223372036854775807 : Int64))), .second, .val (.long (q2 &&& (9223372036854775807 : Int64))), .second, .val (.int (p4 &&& (3 : Int32))), .val (.long (((q1 &&& (9223372036854775807 : Int64)) - (q2 &&& (9223372036854775807 : Int64))) - (1 : Int64))), .second, .val (.ref b54), .val (.int (own_f4 (((q1 &&& (9223372036854775807 : Int64)) - (q2 &&& (9223372036854775807 : Int64))) - (1 : Int64)) (q1 &&& (9223372036854775807 : Int64)) ((0 : Int64) + (q2 &&& (9223372036854775807 : Int64))))), .val (.int (own_f5 (q1 &&& (9223372036854775807 : Int64)) (q2 &&& (9223372036854775807 : Int64)) (((q1 &&& (9223372036854775807 : Int64)) - (q2 &&& (9223372036854775807 : Int64))) - (1 : Int64))))] [(.ref b54)])) _
            refine st73.trans ?_
            show Steps p.tables e below (T73.setTop (mkF m 123 #[.val (.long q1), .second, .val (.long q2), .second, .val (.long q3), .second, .val (.int p4), .val (.long (q1 &&& (9223372036854775807 : Int64))), .second, .val (.long (q2 &&& (9223372036854775807 : Int64))), .second, .val (.int (p4 &&& (3 : Int32))), .val (.long (((q1 &&& (9223372036854775807 : Int64)) - (q2 &&& (9223372036854775807 : Int64))) - (1 : Int64))), .second, .val (.ref b54), .val (.int (own_f4 (((q1 &&& (9223372036854775807 : Int64)) - (q2 &&& (9223372036854775807 : Int64))) - (1 : Int64)) (q1 &&& (9223372036854775807 : Int64)) ((0 : Int64) + (q2 &&& (9223372036854775807 : Int64))))), .val (.int (own_f5 (q1 &&& (9223372036854775807 : Int64)) (q2 &&& (9223372036854775807 : Int64)) (((q1 &&& (9223372036854775807 : Int64)) - (q2 &&& (9223372036854775807 : Int64))) - (1 : Int64))))] [(.long ((0 : Int64) + (q2 &&& (9223372036854775807 : Int64))))])) _
            refine XS.lload X73.here hx rfl (hb hby at_123) rfl ?_
            show Steps p.tables e below (T73.setTop (mkF m 125 #[.val (.long q1), .second, .val (.long q2), .second, .val (.long q3), .second, .val (.int p4), .val (.long (q1 &&& (9223372036854775807 : Int64))), .second, .val (.long (q2 &&& (9223372036854775807 : Int64))), .second, .val (.int (p4 &&& (3 : Int32))), .val (.long (((q1 &&& (9223372036854775807 : Int64)) - (q2 &&& (9223372036854775807 : Int64))) - (1 : Int64))), .second, .val (.ref b54), .val (.int (own_f4 (((q1 &&& (9223372036854775807 : Int64)) - (q2 &&& (9223372036854775807 : Int64))) - (1 : Int64)) (q1 &&& (9223372036854775807 : Int64)) ((0 : Int64) + (q2 &&& (9223372036854775807 : Int64))))), .val (.int (own_f5 (q1 &&& (9223372036854775807 : Int64)) (q2 &&& (9223372036854775807 : Int64)) (((q1 &&& (9223372036854775807 : Int64)) - (q2 &&& (9223372036854775807 : Int64))) - (1 : Int64))))] [(.long (q2 &&& (9223372036854775807 : Int64))), (.long ((0 : Int64) + (q2 &&& (9223372036854775807 : Int64))))])) _
            refine XS.lcmp X73.here hx rfl (hb hby at_125) rfl ?_
            exact kt
          by_cases hc11 : (lcmpW ((0 : Int64) + (q2 &&& (9223372036854775807 : Int64))) (q2 &&& (9223372036854775807 : Int64))) = (0 : Int32)
          ·
            obtain ⟨cq76, kq76, q76a, q76b, q76c⟩ := isOf hZ e73 Q62_0
            obtain ⟨v76, _, ⟨T76, L76, k76, n76⟩, -, X76, ⟨Lc76, hQ76, l76, y76, z76⟩, st76⟩ := X73.virtualBack hx (y := (⟨"com/example/castd/castd/Room", "maxBytes", "()J"⟩ : MethodName)) (z := (⟨"com/example/castd/castd/Room", "maxBytes", "()J"⟩ : MethodName)) hown (mvT hZ (hw _ (List.mem_of_getElem? (i := 33) rfl))) (mvT hZ (hw _ (List.mem_of_getElem? (i := 34) rfl))) (notFace_of_selects (args := #[]) (mvT hZ (hw _ (List.mem_of_getElem? (i := 36) rfl)))) (mvT hZ (hw _ (List.mem_of_getElem? (i := 36) rfl))) (mvT hZ (hw _ (List.mem_of_getElem? (i := 35) rfl))) (by decide) (backOf (W := 0) (own_rm7 l Z a0 hw [] b54 (q1 &&& (9223372036854775807 : Int64)) T62.heap n0 Z66 Q62_2) hZ (hw _ (List.mem_of_getElem? (i := 37) rfl)) (hw _ (List.mem_of_getElem? (i := 3) rfl)) (by decide) (by decide)) q76a q76c (g := (mkF m 131 #[.val (.long q1), .second, .val (.long q2), .second, .val (.long q3), .second, .val (.int p4), .val (.long (q1 &&& (9223372036854775807 : Int64))), .second, .val (.long (q2 &&& (9223372036854775807 : Int64))), .second, .val (.int (p4 &&& (3 : Int32))), .val (.long (((q1 &&& (9223372036854775807 : Int64)) - (q2 &&& (9223372036854775807 : Int64))) - (1 : Int64))), .second, .val (.ref b54), .val (.int (own_f4 (((q1 &&& (9223372036854775807 : Int64)) - (q2 &&& (9223372036854775807 : Int64))) - (1 : Int64)) (q1 &&& (9223372036854775807 : Int64)) ((0 : Int64) + (q2 &&& (9223372036854775807 : Int64))))), .val (.int (own_f5 (q1 &&& (9223372036854775807 : Int64)) (q2 &&& (9223372036854775807 : Int64)) (((q1 &&& (9223372036854775807 : Int64)) - (q2 &&& (9223372036854775807 : Int64))) - (1 : Int64))))] [(.ref b54)])) rfl (by rw [hml]; rfl) (Steps.refl _) (argsL := []) (rest := []) (lenOf own_pd66 rfl) rfl (by show 2 * 0 + _ ≤ _; exact Nat.le_of_eq rfl) (hb hby at_131) (fun _ _ => ⟨rfl, e73, (by decide : 1 + 0 ≤ _), (by decide : 2 + 0 ≤ _)⟩)
            dsimp only [Pt.U, Pt.locs, Pt.cells, Pt.slots] at X76 l76 y76 z76 st76 hQ76
            subst l76 y76 z76
            obtain ⟨hv76, N76q, e76⟩ := hQ76
            have N77 := Fr.app N74 N76q
            rw [show (own_f7 (q1 &&& (9223372036854775807 : Int64))) = (q1 &&& (9223372036854775807 : Int64)) from by first | rfl | decide | simp [own_f7]] at hv76
            subst hv76
            have k78 : ∀ t, Steps p.tables e below (T76.setTop (mkF m 137 #[.val (.long q1), .second, .val (.long q2), .second, .val (.long q3), .second, .val (.int p4), .val (.long (q1 &&& (9223372036854775807 : Int64))), .second, .val (.long (q2 &&& (9223372036854775807 : Int64))), .second, .val (.int (p4 &&& (3 : Int32))), .val (.long (((q1 &&& (9223372036854775807 : Int64)) - (q2 &&& (9223372036854775807 : Int64))) - (1 : Int64))), .second, .val (.ref b54), .val (.int (own_f4 (((q1 &&& (9223372036854775807 : Int64)) - (q2 &&& (9223372036854775807 : Int64))) - (1 : Int64)) (q1 &&& (9223372036854775807 : Int64)) ((0 : Int64) + (q2 &&& (9223372036854775807 : Int64))))), .val (.int (own_f5 (q1 &&& (9223372036854775807 : Int64)) (q2 &&& (9223372036854775807 : Int64)) (((q1 &&& (9223372036854775807 : Int64)) - (q2 &&& (9223372036854775807 : Int64))) - (1 : Int64))))] [(.int (lcmpW (q1 &&& (9223372036854775807 : Int64)) (q1 &&& (9223372036854775807 : Int64))))])) t → Steps p.tables e below (s₁.setTop (entryFrame m #[(.long q1), (.long q2), (.long q3), (.int p4)] maxLocals)) t := by
              intro t kt
              refine k75 t ?_
              show Steps p.tables e below (T73.setTop (mkF m 126 #[.val (.long q1), .second, .val (.long q2), .second, .val (.long q3), .second, .val (.int p4), .val (.long (q1 &&& (9223372036854775807 : Int64))), .second, .val (.long (q2 &&& (9223372036854775807 : Int64))), .second, .val (.int (p4 &&& (3 : Int32))), .val (.long (((q1 &&& (9223372036854775807 : Int64)) - (q2 &&& (9223372036854775807 : Int64))) - (1 : Int64))), .second, .val (.ref b54), .val (.int (own_f4 (((q1 &&& (9223372036854775807 : Int64)) - (q2 &&& (9223372036854775807 : Int64))) - (1 : Int64)) (q1 &&& (9223372036854775807 : Int64)) ((0 : Int64) + (q2 &&& (9223372036854775807 : Int64))))), .val (.int (own_f5 (q1 &&& (9223372036854775807 : Int64)) (q2 &&& (9223372036854775807 : Int64)) (((q1 &&& (9223372036854775807 : Int64)) - (q2 &&& (9223372036854775807 : Int64))) - (1 : Int64))))] [(.int (lcmpW ((0 : Int64) + (q2 &&& (9223372036854775807 : Int64))) (q2 &&& (9223372036854775807 : Int64))))])) _
              refine XS.ifNo X73.here hx rfl (hb hby at_126) rfl ((if0 _ _).trans (teq hc11).2) ?_
              show Steps p.tables e below (T73.setTop (mkF m 129 #[.val (.long q1), .second, .val (.long q2), .second, .val (.long q3), .second, .val (.int p4), .val (.long (q1 &&& (9223372036854775807 : Int64))), .second, .val (.long (q2 &&& (9223372036854775807 : Int64))), .second, .val (.int (p4 &&& (3 : Int32))), .val (.long (((q1 &&& (9223372036854775807 : Int64)) - (q2 &&& (9223372036854775807 : Int64))) - (1 : Int64))), .second, .val (.ref b54), .val (.int (own_f4 (((q1 &&& (9223372036854775807 : Int64)) - (q2 &&& (9223372036854775807 : Int64))) - (1 : Int64)) (q1 &&& (9223372036854775807 : Int64)) ((0 : Int64) + (q2 &&& (9223372036854775807 : Int64))))), .val (.int (own_f5 (q1 &&& (9223372036854775807 : Int64)) (q2 &&& (9223372036854775807 : Int64)) (((q1 &&& (9223372036854775807 : Int64)) - (q2 &&& (9223372036854775807 : Int64))) - (1 : Int64))))] [])) _
              refine XS.aload X73.here hx rfl (hb hby at_129) rfl rfl ?_
              show Steps p.tables e below (T73.setTop (mkF m 131 #[.val (.long q1), .second, .val (.long q2), .second, .val (.long q3), .second, .val (.int p4), .val (.long (q1 &&& (9223372036854775807 : Int64))), .second, .val (.long (q2 &&& (9223372036854775807 : Int64))), .second, .val (.int (p4 &&& (3 : Int32))), .val (.long (((q1 &&& (9223372036854775807 : Int64)) - (q2 &&& (9223372036854775807 : Int64))) - (1 : Int64))), .second, .val (.ref b54), .val (.int (own_f4 (((q1 &&& (9223372036854775807 : Int64)) - (q2 &&& (9223372036854775807 : Int64))) - (1 : Int64)) (q1 &&& (9223372036854775807 : Int64)) ((0 : Int64) + (q2 &&& (9223372036854775807 : Int64))))), .val (.int (own_f5 (q1 &&& (9223372036854775807 : Int64)) (q2 &&& (9223372036854775807 : Int64)) (((q1 &&& (9223372036854775807 : Int64)) - (q2 &&& (9223372036854775807 : Int64))) - (1 : Int64))))] [(.ref b54)])) _
              refine st76.trans ?_
              show Steps p.tables e below (T76.setTop (mkF m 134 #[.val (.long q1), .second, .val (.long q2), .second, .val (.long q3), .second, .val (.int p4), .val (.long (q1 &&& (9223372036854775807 : Int64))), .second, .val (.long (q2 &&& (9223372036854775807 : Int64))), .second, .val (.int (p4 &&& (3 : Int32))), .val (.long (((q1 &&& (9223372036854775807 : Int64)) - (q2 &&& (9223372036854775807 : Int64))) - (1 : Int64))), .second, .val (.ref b54), .val (.int (own_f4 (((q1 &&& (9223372036854775807 : Int64)) - (q2 &&& (9223372036854775807 : Int64))) - (1 : Int64)) (q1 &&& (9223372036854775807 : Int64)) ((0 : Int64) + (q2 &&& (9223372036854775807 : Int64))))), .val (.int (own_f5 (q1 &&& (9223372036854775807 : Int64)) (q2 &&& (9223372036854775807 : Int64)) (((q1 &&& (9223372036854775807 : Int64)) - (q2 &&& (9223372036854775807 : Int64))) - (1 : Int64))))] [(.long (q1 &&& (9223372036854775807 : Int64)))])) _
              refine XS.lload X76.here hx rfl (hb hby at_134) rfl ?_
              show Steps p.tables e below (T76.setTop (mkF m 136 #[.val (.long q1), .second, .val (.long q2), .second, .val (.long q3), .second, .val (.int p4), .val (.long (q1 &&& (9223372036854775807 : Int64))), .second, .val (.long (q2 &&& (9223372036854775807 : Int64))), .second, .val (.int (p4 &&& (3 : Int32))), .val (.long (((q1 &&& (9223372036854775807 : Int64)) - (q2 &&& (9223372036854775807 : Int64))) - (1 : Int64))), .second, .val (.ref b54), .val (.int (own_f4 (((q1 &&& (9223372036854775807 : Int64)) - (q2 &&& (9223372036854775807 : Int64))) - (1 : Int64)) (q1 &&& (9223372036854775807 : Int64)) ((0 : Int64) + (q2 &&& (9223372036854775807 : Int64))))), .val (.int (own_f5 (q1 &&& (9223372036854775807 : Int64)) (q2 &&& (9223372036854775807 : Int64)) (((q1 &&& (9223372036854775807 : Int64)) - (q2 &&& (9223372036854775807 : Int64))) - (1 : Int64))))] [(.long (q1 &&& (9223372036854775807 : Int64))), (.long (q1 &&& (9223372036854775807 : Int64)))])) _
              refine XS.lcmp X76.here hx rfl (hb hby at_136) rfl ?_
              exact kt
            by_cases hc12 : (lcmpW (q1 &&& (9223372036854775807 : Int64)) (q1 &&& (9223372036854775807 : Int64))) = (0 : Int32)
            ·
              obtain ⟨fs, hr, hrun, hended, hW, hsame⟩ := X76.leave (v := some (.int (1 : Int32))) (fun h => by rw [Bd.returns] at h; cases h)
              refine ⟨_, _, k78 _ ?_, hrun, hended, _, _, rfl, ?_, ⟨_, rfl⟩, hW, hsame.mono (by decide) (by decide)⟩
              · show Steps p.tables e below (T76.setTop (mkF m 137 #[.val (.long q1), .second, .val (.long q2), .second, .val (.long q3), .second, .val (.int p4), .val (.long (q1 &&& (9223372036854775807 : Int64))), .second, .val (.long (q2 &&& (9223372036854775807 : Int64))), .second, .val (.int (p4 &&& (3 : Int32))), .val (.long (((q1 &&& (9223372036854775807 : Int64)) - (q2 &&& (9223372036854775807 : Int64))) - (1 : Int64))), .second, .val (.ref b54), .val (.int (own_f4 (((q1 &&& (9223372036854775807 : Int64)) - (q2 &&& (9223372036854775807 : Int64))) - (1 : Int64)) (q1 &&& (9223372036854775807 : Int64)) ((0 : Int64) + (q2 &&& (9223372036854775807 : Int64))))), .val (.int (own_f5 (q1 &&& (9223372036854775807 : Int64)) (q2 &&& (9223372036854775807 : Int64)) (((q1 &&& (9223372036854775807 : Int64)) - (q2 &&& (9223372036854775807 : Int64))) - (1 : Int64))))] [(.int (lcmpW (q1 &&& (9223372036854775807 : Int64)) (q1 &&& (9223372036854775807 : Int64))))])) _
                refine XS.ifNo X76.here hx rfl (hb hby at_137) rfl ((if0 _ _).trans (teq hc12).2) ?_
                show Steps p.tables e below (T76.setTop (mkF m 140 #[.val (.long q1), .second, .val (.long q2), .second, .val (.long q3), .second, .val (.int p4), .val (.long (q1 &&& (9223372036854775807 : Int64))), .second, .val (.long (q2 &&& (9223372036854775807 : Int64))), .second, .val (.int (p4 &&& (3 : Int32))), .val (.long (((q1 &&& (9223372036854775807 : Int64)) - (q2 &&& (9223372036854775807 : Int64))) - (1 : Int64))), .second, .val (.ref b54), .val (.int (own_f4 (((q1 &&& (9223372036854775807 : Int64)) - (q2 &&& (9223372036854775807 : Int64))) - (1 : Int64)) (q1 &&& (9223372036854775807 : Int64)) ((0 : Int64) + (q2 &&& (9223372036854775807 : Int64))))), .val (.int (own_f5 (q1 &&& (9223372036854775807 : Int64)) (q2 &&& (9223372036854775807 : Int64)) (((q1 &&& (9223372036854775807 : Int64)) - (q2 &&& (9223372036854775807 : Int64))) - (1 : Int64))))] [])) _
                refine XS.iconst X76.here hx rfl (hb hby at_140) ?_
                show Steps p.tables e below (T76.setTop (mkF m 141 #[.val (.long q1), .second, .val (.long q2), .second, .val (.long q3), .second, .val (.int p4), .val (.long (q1 &&& (9223372036854775807 : Int64))), .second, .val (.long (q2 &&& (9223372036854775807 : Int64))), .second, .val (.int (p4 &&& (3 : Int32))), .val (.long (((q1 &&& (9223372036854775807 : Int64)) - (q2 &&& (9223372036854775807 : Int64))) - (1 : Int64))), .second, .val (.ref b54), .val (.int (own_f4 (((q1 &&& (9223372036854775807 : Int64)) - (q2 &&& (9223372036854775807 : Int64))) - (1 : Int64)) (q1 &&& (9223372036854775807 : Int64)) ((0 : Int64) + (q2 &&& (9223372036854775807 : Int64))))), .val (.int (own_f5 (q1 &&& (9223372036854775807 : Int64)) (q2 &&& (9223372036854775807 : Int64)) (((q1 &&& (9223372036854775807 : Int64)) - (q2 &&& (9223372036854775807 : Int64))) - (1 : Int64))))] [(.int (1 : Int32))])) _
                refine XS.goto X76.here hx rfl (pc0 := 141) (pc' := 145) rfl (hb hby at_141) (by decide) (by decide) ?_
                show Steps p.tables e below (T76.setTop (mkF m 145 #[.val (.long q1), .second, .val (.long q2), .second, .val (.long q3), .second, .val (.int p4), .val (.long (q1 &&& (9223372036854775807 : Int64))), .second, .val (.long (q2 &&& (9223372036854775807 : Int64))), .second, .val (.int (p4 &&& (3 : Int32))), .val (.long (((q1 &&& (9223372036854775807 : Int64)) - (q2 &&& (9223372036854775807 : Int64))) - (1 : Int64))), .second, .val (.ref b54), .val (.int (own_f4 (((q1 &&& (9223372036854775807 : Int64)) - (q2 &&& (9223372036854775807 : Int64))) - (1 : Int64)) (q1 &&& (9223372036854775807 : Int64)) ((0 : Int64) + (q2 &&& (9223372036854775807 : Int64))))), .val (.int (own_f5 (q1 &&& (9223372036854775807 : Int64)) (q2 &&& (9223372036854775807 : Int64)) (((q1 &&& (9223372036854775807 : Int64)) - (q2 &&& (9223372036854775807 : Int64))) - (1 : Int64))))] [(.int (1 : Int32))])) _
                exact retN X76 hx (t := .boolean) Bd.returns (by simp) (hb hby at_145) hr
              · show own_Q0 Z q1 q2 q3 p4 h0 n0 _ T76.heap _
                rw [e76]
                exact ⟨(by rw [own_f0, if_neg hc1, if_neg hc5, if_pos hc9, if_pos hc10, if_pos hc11, if_pos hc12]), N77⟩
            ·
              obtain ⟨fs, hr, hrun, hended, hW, hsame⟩ := X76.leave (v := some (.int (0 : Int32))) (fun h => by rw [Bd.returns] at h; cases h)
              refine ⟨_, _, k78 _ ?_, hrun, hended, _, _, rfl, ?_, ⟨_, rfl⟩, hW, hsame.mono (by decide) (by decide)⟩
              · show Steps p.tables e below (T76.setTop (mkF m 137 #[.val (.long q1), .second, .val (.long q2), .second, .val (.long q3), .second, .val (.int p4), .val (.long (q1 &&& (9223372036854775807 : Int64))), .second, .val (.long (q2 &&& (9223372036854775807 : Int64))), .second, .val (.int (p4 &&& (3 : Int32))), .val (.long (((q1 &&& (9223372036854775807 : Int64)) - (q2 &&& (9223372036854775807 : Int64))) - (1 : Int64))), .second, .val (.ref b54), .val (.int (own_f4 (((q1 &&& (9223372036854775807 : Int64)) - (q2 &&& (9223372036854775807 : Int64))) - (1 : Int64)) (q1 &&& (9223372036854775807 : Int64)) ((0 : Int64) + (q2 &&& (9223372036854775807 : Int64))))), .val (.int (own_f5 (q1 &&& (9223372036854775807 : Int64)) (q2 &&& (9223372036854775807 : Int64)) (((q1 &&& (9223372036854775807 : Int64)) - (q2 &&& (9223372036854775807 : Int64))) - (1 : Int64))))] [(.int (lcmpW (q1 &&& (9223372036854775807 : Int64)) (q1 &&& (9223372036854775807 : Int64))))])) _
                refine XS.ifYes X76.here hx rfl (pc0 := 137) (pc' := 144) rfl (hb hby at_137) rfl ((if0 _ _).trans (feq hc12).2) (by decide) (by decide) ?_
                show Steps p.tables e below (T76.setTop (mkF m 144 #[.val (.long q1), .second, .val (.long q2), .second, .val (.long q3), .second, .val (.int p4), .val (.long (q1 &&& (9223372036854775807 : Int64))), .second, .val (.long (q2 &&& (9223372036854775807 : Int64))), .second, .val (.int (p4 &&& (3 : Int32))), .val (.long (((q1 &&& (9223372036854775807 : Int64)) - (q2 &&& (9223372036854775807 : Int64))) - (1 : Int64))), .second, .val (.ref b54), .val (.int (own_f4 (((q1 &&& (9223372036854775807 : Int64)) - (q2 &&& (9223372036854775807 : Int64))) - (1 : Int64)) (q1 &&& (9223372036854775807 : Int64)) ((0 : Int64) + (q2 &&& (9223372036854775807 : Int64))))), .val (.int (own_f5 (q1 &&& (9223372036854775807 : Int64)) (q2 &&& (9223372036854775807 : Int64)) (((q1 &&& (9223372036854775807 : Int64)) - (q2 &&& (9223372036854775807 : Int64))) - (1 : Int64))))] [])) _
                refine XS.iconst X76.here hx rfl (hb hby at_144) ?_
                show Steps p.tables e below (T76.setTop (mkF m 145 #[.val (.long q1), .second, .val (.long q2), .second, .val (.long q3), .second, .val (.int p4), .val (.long (q1 &&& (9223372036854775807 : Int64))), .second, .val (.long (q2 &&& (9223372036854775807 : Int64))), .second, .val (.int (p4 &&& (3 : Int32))), .val (.long (((q1 &&& (9223372036854775807 : Int64)) - (q2 &&& (9223372036854775807 : Int64))) - (1 : Int64))), .second, .val (.ref b54), .val (.int (own_f4 (((q1 &&& (9223372036854775807 : Int64)) - (q2 &&& (9223372036854775807 : Int64))) - (1 : Int64)) (q1 &&& (9223372036854775807 : Int64)) ((0 : Int64) + (q2 &&& (9223372036854775807 : Int64))))), .val (.int (own_f5 (q1 &&& (9223372036854775807 : Int64)) (q2 &&& (9223372036854775807 : Int64)) (((q1 &&& (9223372036854775807 : Int64)) - (q2 &&& (9223372036854775807 : Int64))) - (1 : Int64))))] [(.int (0 : Int32))])) _
                exact retN X76 hx (t := .boolean) Bd.returns (by simp) (hb hby at_145) hr
              · show own_Q0 Z q1 q2 q3 p4 h0 n0 _ T76.heap _
                rw [e76]
                exact ⟨(by rw [own_f0, if_neg hc1, if_neg hc5, if_pos hc9, if_pos hc10, if_pos hc11, if_neg hc12]), N77⟩
          ·
            obtain ⟨fs, hr, hrun, hended, hW, hsame⟩ := X73.leave (v := some (.int (0 : Int32))) (fun h => by rw [Bd.returns] at h; cases h)
            refine ⟨_, _, k75 _ ?_, hrun, hended, _, _, rfl, ?_, ⟨_, rfl⟩, hW, hsame.mono (by decide) (by decide)⟩
            · show Steps p.tables e below (T73.setTop (mkF m 126 #[.val (.long q1), .second, .val (.long q2), .second, .val (.long q3), .second, .val (.int p4), .val (.long (q1 &&& (9223372036854775807 : Int64))), .second, .val (.long (q2 &&& (9223372036854775807 : Int64))), .second, .val (.int (p4 &&& (3 : Int32))), .val (.long (((q1 &&& (9223372036854775807 : Int64)) - (q2 &&& (9223372036854775807 : Int64))) - (1 : Int64))), .second, .val (.ref b54), .val (.int (own_f4 (((q1 &&& (9223372036854775807 : Int64)) - (q2 &&& (9223372036854775807 : Int64))) - (1 : Int64)) (q1 &&& (9223372036854775807 : Int64)) ((0 : Int64) + (q2 &&& (9223372036854775807 : Int64))))), .val (.int (own_f5 (q1 &&& (9223372036854775807 : Int64)) (q2 &&& (9223372036854775807 : Int64)) (((q1 &&& (9223372036854775807 : Int64)) - (q2 &&& (9223372036854775807 : Int64))) - (1 : Int64))))] [(.int (lcmpW ((0 : Int64) + (q2 &&& (9223372036854775807 : Int64))) (q2 &&& (9223372036854775807 : Int64))))])) _
              refine XS.ifYes X73.here hx rfl (pc0 := 126) (pc' := 144) rfl (hb hby at_126) rfl ((if0 _ _).trans (feq hc11).2) (by decide) (by decide) ?_
              show Steps p.tables e below (T73.setTop (mkF m 144 #[.val (.long q1), .second, .val (.long q2), .second, .val (.long q3), .second, .val (.int p4), .val (.long (q1 &&& (9223372036854775807 : Int64))), .second, .val (.long (q2 &&& (9223372036854775807 : Int64))), .second, .val (.int (p4 &&& (3 : Int32))), .val (.long (((q1 &&& (9223372036854775807 : Int64)) - (q2 &&& (9223372036854775807 : Int64))) - (1 : Int64))), .second, .val (.ref b54), .val (.int (own_f4 (((q1 &&& (9223372036854775807 : Int64)) - (q2 &&& (9223372036854775807 : Int64))) - (1 : Int64)) (q1 &&& (9223372036854775807 : Int64)) ((0 : Int64) + (q2 &&& (9223372036854775807 : Int64))))), .val (.int (own_f5 (q1 &&& (9223372036854775807 : Int64)) (q2 &&& (9223372036854775807 : Int64)) (((q1 &&& (9223372036854775807 : Int64)) - (q2 &&& (9223372036854775807 : Int64))) - (1 : Int64))))] [])) _
              refine XS.iconst X73.here hx rfl (hb hby at_144) ?_
              show Steps p.tables e below (T73.setTop (mkF m 145 #[.val (.long q1), .second, .val (.long q2), .second, .val (.long q3), .second, .val (.int p4), .val (.long (q1 &&& (9223372036854775807 : Int64))), .second, .val (.long (q2 &&& (9223372036854775807 : Int64))), .second, .val (.int (p4 &&& (3 : Int32))), .val (.long (((q1 &&& (9223372036854775807 : Int64)) - (q2 &&& (9223372036854775807 : Int64))) - (1 : Int64))), .second, .val (.ref b54), .val (.int (own_f4 (((q1 &&& (9223372036854775807 : Int64)) - (q2 &&& (9223372036854775807 : Int64))) - (1 : Int64)) (q1 &&& (9223372036854775807 : Int64)) ((0 : Int64) + (q2 &&& (9223372036854775807 : Int64))))), .val (.int (own_f5 (q1 &&& (9223372036854775807 : Int64)) (q2 &&& (9223372036854775807 : Int64)) (((q1 &&& (9223372036854775807 : Int64)) - (q2 &&& (9223372036854775807 : Int64))) - (1 : Int64))))] [(.int (0 : Int32))])) _
              exact retN X73 hx (t := .boolean) Bd.returns (by simp) (hb hby at_145) hr
            · show own_Q0 Z q1 q2 q3 p4 h0 n0 _ T73.heap _
              rw [e73]
              exact ⟨(by rw [own_f0, if_neg hc1, if_neg hc5, if_pos hc9, if_pos hc10, if_neg hc11]), N74⟩
        ·
          obtain ⟨fs, hr, hrun, hended, hW, hsame⟩ := X70.leave (v := some (.int (0 : Int32))) (fun h => by rw [Bd.returns] at h; cases h)
          refine ⟨_, _, k72 _ ?_, hrun, hended, _, _, rfl, ?_, ⟨_, rfl⟩, hW, hsame.mono (by decide) (by decide)⟩
          · show Steps p.tables e below (T70.setTop (mkF m 115 #[.val (.long q1), .second, .val (.long q2), .second, .val (.long q3), .second, .val (.int p4), .val (.long (q1 &&& (9223372036854775807 : Int64))), .second, .val (.long (q2 &&& (9223372036854775807 : Int64))), .second, .val (.int (p4 &&& (3 : Int32))), .val (.long (((q1 &&& (9223372036854775807 : Int64)) - (q2 &&& (9223372036854775807 : Int64))) - (1 : Int64))), .second, .val (.ref b54), .val (.int (own_f4 (((q1 &&& (9223372036854775807 : Int64)) - (q2 &&& (9223372036854775807 : Int64))) - (1 : Int64)) (q1 &&& (9223372036854775807 : Int64)) ((0 : Int64) + (q2 &&& (9223372036854775807 : Int64))))), .val (.int (own_f5 (q1 &&& (9223372036854775807 : Int64)) (q2 &&& (9223372036854775807 : Int64)) (((q1 &&& (9223372036854775807 : Int64)) - (q2 &&& (9223372036854775807 : Int64))) - (1 : Int64))))] [(.int (own_f5 (q1 &&& (9223372036854775807 : Int64)) (q2 &&& (9223372036854775807 : Int64)) (((q1 &&& (9223372036854775807 : Int64)) - (q2 &&& (9223372036854775807 : Int64))) - (1 : Int64)))), (.int (own_f4 (((q1 &&& (9223372036854775807 : Int64)) - (q2 &&& (9223372036854775807 : Int64))) - (1 : Int64)) (q1 &&& (9223372036854775807 : Int64)) ((0 : Int64) + (q2 &&& (9223372036854775807 : Int64)))))])) _
            refine XS.icmpYes X70.here hx rfl (pc0 := 115) (pc' := 144) rfl (hb hby at_115) rfl (feq hc10).2 (by decide) (by decide) ?_
            show Steps p.tables e below (T70.setTop (mkF m 144 #[.val (.long q1), .second, .val (.long q2), .second, .val (.long q3), .second, .val (.int p4), .val (.long (q1 &&& (9223372036854775807 : Int64))), .second, .val (.long (q2 &&& (9223372036854775807 : Int64))), .second, .val (.int (p4 &&& (3 : Int32))), .val (.long (((q1 &&& (9223372036854775807 : Int64)) - (q2 &&& (9223372036854775807 : Int64))) - (1 : Int64))), .second, .val (.ref b54), .val (.int (own_f4 (((q1 &&& (9223372036854775807 : Int64)) - (q2 &&& (9223372036854775807 : Int64))) - (1 : Int64)) (q1 &&& (9223372036854775807 : Int64)) ((0 : Int64) + (q2 &&& (9223372036854775807 : Int64))))), .val (.int (own_f5 (q1 &&& (9223372036854775807 : Int64)) (q2 &&& (9223372036854775807 : Int64)) (((q1 &&& (9223372036854775807 : Int64)) - (q2 &&& (9223372036854775807 : Int64))) - (1 : Int64))))] [])) _
            refine XS.iconst X70.here hx rfl (hb hby at_144) ?_
            show Steps p.tables e below (T70.setTop (mkF m 145 #[.val (.long q1), .second, .val (.long q2), .second, .val (.long q3), .second, .val (.int p4), .val (.long (q1 &&& (9223372036854775807 : Int64))), .second, .val (.long (q2 &&& (9223372036854775807 : Int64))), .second, .val (.int (p4 &&& (3 : Int32))), .val (.long (((q1 &&& (9223372036854775807 : Int64)) - (q2 &&& (9223372036854775807 : Int64))) - (1 : Int64))), .second, .val (.ref b54), .val (.int (own_f4 (((q1 &&& (9223372036854775807 : Int64)) - (q2 &&& (9223372036854775807 : Int64))) - (1 : Int64)) (q1 &&& (9223372036854775807 : Int64)) ((0 : Int64) + (q2 &&& (9223372036854775807 : Int64))))), .val (.int (own_f5 (q1 &&& (9223372036854775807 : Int64)) (q2 &&& (9223372036854775807 : Int64)) (((q1 &&& (9223372036854775807 : Int64)) - (q2 &&& (9223372036854775807 : Int64))) - (1 : Int64))))] [(.int (0 : Int32))])) _
            exact retN X70 hx (t := .boolean) Bd.returns (by simp) (hb hby at_145) hr
          · show own_Q0 Z q1 q2 q3 p4 h0 n0 _ T70.heap _
            rw [e70]
            exact ⟨(by rw [own_f0, if_neg hc1, if_neg hc5, if_pos hc9, if_neg hc10]), N71⟩
      ·
        obtain ⟨T79, h79, X79, e79, E79, A79, D79, -, st79⟩ := newO X0 hx hZ hown (hw _ (List.mem_of_getElem? (i := 1) rfl)) (hw _ (List.mem_of_getElem? (i := 2) rfl)) (hw _ (List.mem_of_getElem? (i := 3) rfl)) e0 (g := (mkF m 73 #[.val (.long q1), .second, .val (.long q2), .second, .val (.long q3), .second, .val (.int p4), .val (.long (q1 &&& (9223372036854775807 : Int64))), .second, .val (.long (q2 &&& (9223372036854775807 : Int64))), .second, .val (.int (p4 &&& (3 : Int32))), .val (.long q3), .second, .unset, .unset, .unset] [])) rfl (hb hby at_73) (by decide) (by decide)
        obtain ⟨b79, g79⟩ : ∃ z, z = h0.size := ⟨_, rfl⟩
        rw [← g79] at A79 D79 st79
        have g_b79 : n0 ≤ b79 := Nat.le_trans Z0 (Nat.le_of_eq g79.symm)
        have Z80 := Nat.le_trans Z0 E79.1
        have F_maxBytes_b79 : Fld Z h79 b79 "com/example/castd/castd/Room" "maxBytes" "J" (.long (0 : Int64)) := D79 (Or.inr (hw _ (List.mem_of_getElem? (i := 11) rfl))) (ty := .long) (by decide)
        have F_bytes_b79 : Fld Z h79 b79 "com/example/castd/castd/Room" "bytes" "J" (.long (0 : Int64)) := D79 (Or.inl (hw _ (List.mem_of_getElem? (i := 18) rfl))) (ty := .long) (by decide)
        obtain ⟨v81, _, ⟨T81, L81, k81, n81⟩, -, X81, ⟨Lc81, hQ81, l81, y81, z81⟩, st81⟩ := X79.specialBack hx (y := (⟨"com/example/castd/castd/Room", "<init>", "(J)V"⟩ : MethodName)) rfl hown (mvT hZ (hw _ (List.mem_of_getElem? (i := 4) rfl))) (mvT hZ (hw _ (List.mem_of_getElem? (i := 5) rfl))) (mvT hZ (hw _ (List.mem_of_getElem? (i := 6) rfl))) (by decide) (backOf (W := 1) (own_rm1 l Z a0 hw [] b79 (q1 &&& (9223372036854775807 : Int64)) (0 : Int64) (0 : Int64) h79 n0 Z80 A79 F_maxBytes_b79 g_b79 F_bytes_b79) hZ (hw _ (List.mem_of_getElem? (i := 6) rfl)) (hw _ (List.mem_of_getElem? (i := 3) rfl)) (by decide) (by decide)) (g := (mkF m 79 #[.val (.long q1), .second, .val (.long q2), .second, .val (.long q3), .second, .val (.int p4), .val (.long (q1 &&& (9223372036854775807 : Int64))), .second, .val (.long (q2 &&& (9223372036854775807 : Int64))), .second, .val (.int (p4 &&& (3 : Int32))), .val (.long q3), .second, .unset, .unset, .unset] [(.long (q1 &&& (9223372036854775807 : Int64))), (.ref b79), (.ref b79)])) rfl (by rw [hml]; rfl) (Steps.refl _) (a := b79) (argsL := [(.long (q1 &&& (9223372036854775807 : Int64)))]) (rest := [(.ref b79)]) (lenOf own_pd63 rfl) rfl (by show 2 * 0 + _ ≤ _; exact Nat.le_of_eq rfl) (hb hby at_79) (fun _ _ => ⟨rfl, e79, (by decide : 1 + 0 ≤ _), (by decide : 2 + 0 ≤ _)⟩)
        dsimp only [Pt.U, Pt.locs, Pt.cells, Pt.slots] at X81 l81 y81 z81 st81 hQ81
        subst l81 y81 z81
        obtain ⟨rfl, N81q, K81, Q81_0, Q81_1, Q81_2⟩ := hQ81
        have f82 := A79.keep K81
        have Z85 := Nat.le_trans Z80 K81.1
        have N86 := Fr.app N0 N81q
        obtain ⟨cq87, kq87, q87a, q87b, q87c⟩ := isOf hZ rfl Q81_0
        obtain ⟨v87, _, ⟨T87, L87, k87, n87⟩, -, X87, ⟨Lc87, hQ87, l87, y87, z87⟩, st87⟩ := X81.virtualBack hx (y := (⟨"com/example/castd/castd/Room", "add", "(J)V"⟩ : MethodName)) (z := (⟨"com/example/castd/castd/Room", "add", "(J)V"⟩ : MethodName)) hown (mvT hZ (hw _ (List.mem_of_getElem? (i := 12) rfl))) (mvT hZ (hw _ (List.mem_of_getElem? (i := 13) rfl))) (notFace_of_selects (args := #[]) (mvT hZ (hw _ (List.mem_of_getElem? (i := 15) rfl)))) (mvT hZ (hw _ (List.mem_of_getElem? (i := 15) rfl))) (mvT hZ (hw _ (List.mem_of_getElem? (i := 14) rfl))) (by decide) (backOf (W := 0) (own_rm3 l Z a0 hw [] b79 (q2 &&& (9223372036854775807 : Int64)) (0 : Int64) (q1 &&& (9223372036854775807 : Int64)) T81.heap n0 Z85 Q81_2 Q81_0 g_b79 Q81_1) hZ (hw _ (List.mem_of_getElem? (i := 16) rfl)) (hw _ (List.mem_of_getElem? (i := 3) rfl)) (by decide) (by decide)) q87a q87c (g := (mkF m 88 #[.val (.long q1), .second, .val (.long q2), .second, .val (.long q3), .second, .val (.int p4), .val (.long (q1 &&& (9223372036854775807 : Int64))), .second, .val (.long (q2 &&& (9223372036854775807 : Int64))), .second, .val (.int (p4 &&& (3 : Int32))), .val (.long q3), .second, .val (.ref b79), .unset, .unset] [(.long (q2 &&& (9223372036854775807 : Int64))), (.ref b79)])) rfl (by rw [hml]; rfl) (Steps.refl _) (argsL := [(.long (q2 &&& (9223372036854775807 : Int64)))]) (rest := []) (lenOf own_pd63 rfl) rfl (by show 2 * 0 + _ ≤ _; exact Nat.le_of_eq rfl) (hb hby at_88) (fun _ _ => ⟨rfl, rfl, (by decide : 1 + 0 ≤ _), (by decide : 2 + 0 ≤ _)⟩)
        dsimp only [Pt.U, Pt.locs, Pt.cells, Pt.slots] at X87 l87 y87 z87 st87 hQ87
        subst l87 y87 z87
        obtain ⟨rfl, N87q, K87, Q87_0, Q87_1, Q87_2⟩ := hQ87
        have f88 := Q81_0.keep K87
        have Z91 := Nat.le_trans Z85 K87.1
        have N92 := Fr.app N86 N87q
        obtain ⟨cq93, kq93, q93a, q93b, q93c⟩ := isOf hZ rfl Q87_0
        obtain ⟨v93, _, ⟨T93, L93, k93, n93⟩, -, X93, ⟨Lc93, hQ93, l93, y93, z93⟩, st93⟩ := X87.virtualBack hx (y := (⟨"com/example/castd/castd/Room", "fits", "(J)Z"⟩ : MethodName)) (z := (⟨"com/example/castd/castd/Room", "fits", "(J)Z"⟩ : MethodName)) hown (mvT hZ (hw _ (List.mem_of_getElem? (i := 19) rfl))) (mvT hZ (hw _ (List.mem_of_getElem? (i := 20) rfl))) (notFace_of_selects (args := #[]) (mvT hZ (hw _ (List.mem_of_getElem? (i := 22) rfl)))) (mvT hZ (hw _ (List.mem_of_getElem? (i := 22) rfl))) (mvT hZ (hw _ (List.mem_of_getElem? (i := 21) rfl))) (by decide) (backOf (W := 0) (own_rm4 l Z a0 hw [] b79 q3 (q1 &&& (9223372036854775807 : Int64)) ((0 : Int64) + (q2 &&& (9223372036854775807 : Int64))) T87.heap n0 Z91 Q87_2 Q87_1) hZ (hw _ (List.mem_of_getElem? (i := 23) rfl)) (hw _ (List.mem_of_getElem? (i := 3) rfl)) (by decide) (by decide)) q93a q93c (g := (mkF m 95 #[.val (.long q1), .second, .val (.long q2), .second, .val (.long q3), .second, .val (.int p4), .val (.long (q1 &&& (9223372036854775807 : Int64))), .second, .val (.long (q2 &&& (9223372036854775807 : Int64))), .second, .val (.int (p4 &&& (3 : Int32))), .val (.long q3), .second, .val (.ref b79), .unset, .unset] [(.long q3), (.ref b79)])) rfl (by rw [hml]; rfl) (Steps.refl _) (argsL := [(.long q3)]) (rest := []) (lenOf own_pd64 rfl) rfl (by show 2 * 0 + _ ≤ _; exact Nat.le_of_eq rfl) (hb hby at_95) (fun _ _ => ⟨rfl, rfl, (by decide : 1 + 0 ≤ _), (by decide : 2 + 0 ≤ _)⟩)
        dsimp only [Pt.U, Pt.locs, Pt.cells, Pt.slots] at X93 l93 y93 z93 st93 hQ93
        subst l93 y93 z93
        obtain ⟨rfl, N93q, e93⟩ := hQ93
        have N94 := Fr.app N92 N93q
        obtain ⟨v95, _, ⟨T95, L95, k95, n95⟩, -, X95, ⟨Lc95, hQ95, l95, y95, z95⟩, st95⟩ := Jvm.LawKit.callS X93 hx (y := (⟨"com/example/castd/castd/RoomFitsPinLaw", "expectedFits", "(JJJ)Z"⟩ : MethodName)) hown (mvT hZ (hw _ (List.mem_of_getElem? (i := 24) rfl))) (mvT hZ (hw _ (List.mem_of_getElem? (i := 25) rfl))) (mvT hZ (hw _ (List.mem_of_getElem? (i := 26) rfl))) (mvT hZ (hw _ (List.mem_of_getElem? (i := 27) rfl))) (by decide) (backOf (W := 0) (own_rm5 l Z a0 hw [] (q1 &&& (9223372036854775807 : Int64)) (q2 &&& (9223372036854775807 : Int64)) q3 T87.heap n0 Z91) hZ (hw _ (List.mem_of_getElem? (i := 27) rfl)) (hw _ (List.mem_of_getElem? (i := 26) rfl)) (by decide) (by decide)) (g := (mkF m 106 #[.val (.long q1), .second, .val (.long q2), .second, .val (.long q3), .second, .val (.int p4), .val (.long (q1 &&& (9223372036854775807 : Int64))), .second, .val (.long (q2 &&& (9223372036854775807 : Int64))), .second, .val (.int (p4 &&& (3 : Int32))), .val (.long q3), .second, .val (.ref b79), .val (.int (own_f4 q3 (q1 &&& (9223372036854775807 : Int64)) ((0 : Int64) + (q2 &&& (9223372036854775807 : Int64))))), .unset] [(.long q3), (.long (q2 &&& (9223372036854775807 : Int64))), (.long (q1 &&& (9223372036854775807 : Int64)))])) rfl (by rw [hml]; rfl) (argsL := [(.long (q1 &&& (9223372036854775807 : Int64))), (.long (q2 &&& (9223372036854775807 : Int64))), (.long q3)]) (rest := []) (lenOf own_pd65 rfl) rfl (by show 2 * 0 + _ ≤ _; exact Nat.le_of_eq rfl) (hb hby at_106) (fun _ _ => ⟨rfl, e93, (by decide : 1 + 0 ≤ _), (by decide : 2 + 0 ≤ _)⟩)
        dsimp only [Pt.U, Pt.locs, Pt.cells, Pt.slots] at X95 l95 y95 z95 st95 hQ95
        subst l95 y95 z95
        obtain ⟨rfl, N95q, e95⟩ := hQ95
        have N96 := Fr.app N94 N95q
        have k97 : ∀ t, Steps p.tables e below (T95.setTop (mkF m 115 #[.val (.long q1), .second, .val (.long q2), .second, .val (.long q3), .second, .val (.int p4), .val (.long (q1 &&& (9223372036854775807 : Int64))), .second, .val (.long (q2 &&& (9223372036854775807 : Int64))), .second, .val (.int (p4 &&& (3 : Int32))), .val (.long q3), .second, .val (.ref b79), .val (.int (own_f4 q3 (q1 &&& (9223372036854775807 : Int64)) ((0 : Int64) + (q2 &&& (9223372036854775807 : Int64))))), .val (.int (own_f5 (q1 &&& (9223372036854775807 : Int64)) (q2 &&& (9223372036854775807 : Int64)) q3))] [(.int (own_f5 (q1 &&& (9223372036854775807 : Int64)) (q2 &&& (9223372036854775807 : Int64)) q3)), (.int (own_f4 q3 (q1 &&& (9223372036854775807 : Int64)) ((0 : Int64) + (q2 &&& (9223372036854775807 : Int64)))))])) t → Steps p.tables e below (s₁.setTop (entryFrame m #[(.long q1), (.long q2), (.long q3), (.int p4)] maxLocals)) t := by
          intro t kt
          refine k53 t ?_
          show Steps p.tables e below (s₁.setTop (mkF m 61 #[.val (.long q1), .second, .val (.long q2), .second, .val (.long q3), .second, .val (.int p4), .val (.long (q1 &&& (9223372036854775807 : Int64))), .second, .val (.long (q2 &&& (9223372036854775807 : Int64))), .second, .val (.int (p4 &&& (3 : Int32))), .val (.long q3), .second, .unset, .unset, .unset] [(.int (3 : Int32)), (.int (p4 &&& (3 : Int32)))])) _
          refine XS.icmpYes X0.here hx rfl (pc0 := 61) (pc' := 73) rfl (hb hby at_61) rfl (feq hc9).2 (by decide) (by decide) ?_
          show Steps p.tables e below (s₁.setTop (mkF m 73 #[.val (.long q1), .second, .val (.long q2), .second, .val (.long q3), .second, .val (.int p4), .val (.long (q1 &&& (9223372036854775807 : Int64))), .second, .val (.long (q2 &&& (9223372036854775807 : Int64))), .second, .val (.int (p4 &&& (3 : Int32))), .val (.long q3), .second, .unset, .unset, .unset] [])) _
          refine st79 _ ?_
          show Steps p.tables e below (T79.setTop (mkF m 76 #[.val (.long q1), .second, .val (.long q2), .second, .val (.long q3), .second, .val (.int p4), .val (.long (q1 &&& (9223372036854775807 : Int64))), .second, .val (.long (q2 &&& (9223372036854775807 : Int64))), .second, .val (.int (p4 &&& (3 : Int32))), .val (.long q3), .second, .unset, .unset, .unset] [(.ref b79)])) _
          refine XS.dup X79.here hx rfl (hb hby at_76) rfl rfl ?_
          show Steps p.tables e below (T79.setTop (mkF m 77 #[.val (.long q1), .second, .val (.long q2), .second, .val (.long q3), .second, .val (.int p4), .val (.long (q1 &&& (9223372036854775807 : Int64))), .second, .val (.long (q2 &&& (9223372036854775807 : Int64))), .second, .val (.int (p4 &&& (3 : Int32))), .val (.long q3), .second, .unset, .unset, .unset] [(.ref b79), (.ref b79)])) _
          refine XS.lload X79.here hx rfl (hb hby at_77) rfl ?_
          show Steps p.tables e below (T79.setTop (mkF m 79 #[.val (.long q1), .second, .val (.long q2), .second, .val (.long q3), .second, .val (.int p4), .val (.long (q1 &&& (9223372036854775807 : Int64))), .second, .val (.long (q2 &&& (9223372036854775807 : Int64))), .second, .val (.int (p4 &&& (3 : Int32))), .val (.long q3), .second, .unset, .unset, .unset] [(.long (q1 &&& (9223372036854775807 : Int64))), (.ref b79), (.ref b79)])) _
          refine st81.trans ?_
          show Steps p.tables e below (T81.setTop (mkF m 82 #[.val (.long q1), .second, .val (.long q2), .second, .val (.long q3), .second, .val (.int p4), .val (.long (q1 &&& (9223372036854775807 : Int64))), .second, .val (.long (q2 &&& (9223372036854775807 : Int64))), .second, .val (.int (p4 &&& (3 : Int32))), .val (.long q3), .second, .unset, .unset, .unset] [(.ref b79)])) _
          refine XS.astore X81.here hx rfl (hb hby at_82) rfl rfl (l' := #[.val (.long q1), .second, .val (.long q2), .second, .val (.long q3), .second, .val (.int p4), .val (.long (q1 &&& (9223372036854775807 : Int64))), .second, .val (.long (q2 &&& (9223372036854775807 : Int64))), .second, .val (.int (p4 &&& (3 : Int32))), .val (.long q3), .second, .val (.ref b79), .unset, .unset]) rfl ?_
          show Steps p.tables e below (T81.setTop (mkF m 84 #[.val (.long q1), .second, .val (.long q2), .second, .val (.long q3), .second, .val (.int p4), .val (.long (q1 &&& (9223372036854775807 : Int64))), .second, .val (.long (q2 &&& (9223372036854775807 : Int64))), .second, .val (.int (p4 &&& (3 : Int32))), .val (.long q3), .second, .val (.ref b79), .unset, .unset] [])) _
          refine XS.aload X81.here hx rfl (hb hby at_84) rfl rfl ?_
          show Steps p.tables e below (T81.setTop (mkF m 86 #[.val (.long q1), .second, .val (.long q2), .second, .val (.long q3), .second, .val (.int p4), .val (.long (q1 &&& (9223372036854775807 : Int64))), .second, .val (.long (q2 &&& (9223372036854775807 : Int64))), .second, .val (.int (p4 &&& (3 : Int32))), .val (.long q3), .second, .val (.ref b79), .unset, .unset] [(.ref b79)])) _
          refine XS.lload X81.here hx rfl (hb hby at_86) rfl ?_
          show Steps p.tables e below (T81.setTop (mkF m 88 #[.val (.long q1), .second, .val (.long q2), .second, .val (.long q3), .second, .val (.int p4), .val (.long (q1 &&& (9223372036854775807 : Int64))), .second, .val (.long (q2 &&& (9223372036854775807 : Int64))), .second, .val (.int (p4 &&& (3 : Int32))), .val (.long q3), .second, .val (.ref b79), .unset, .unset] [(.long (q2 &&& (9223372036854775807 : Int64))), (.ref b79)])) _
          refine st87.trans ?_
          show Steps p.tables e below (T87.setTop (mkF m 91 #[.val (.long q1), .second, .val (.long q2), .second, .val (.long q3), .second, .val (.int p4), .val (.long (q1 &&& (9223372036854775807 : Int64))), .second, .val (.long (q2 &&& (9223372036854775807 : Int64))), .second, .val (.int (p4 &&& (3 : Int32))), .val (.long q3), .second, .val (.ref b79), .unset, .unset] [])) _
          refine XS.aload X87.here hx rfl (hb hby at_91) rfl rfl ?_
          show Steps p.tables e below (T87.setTop (mkF m 93 #[.val (.long q1), .second, .val (.long q2), .second, .val (.long q3), .second, .val (.int p4), .val (.long (q1 &&& (9223372036854775807 : Int64))), .second, .val (.long (q2 &&& (9223372036854775807 : Int64))), .second, .val (.int (p4 &&& (3 : Int32))), .val (.long q3), .second, .val (.ref b79), .unset, .unset] [(.ref b79)])) _
          refine XS.lload X87.here hx rfl (hb hby at_93) rfl ?_
          show Steps p.tables e below (T87.setTop (mkF m 95 #[.val (.long q1), .second, .val (.long q2), .second, .val (.long q3), .second, .val (.int p4), .val (.long (q1 &&& (9223372036854775807 : Int64))), .second, .val (.long (q2 &&& (9223372036854775807 : Int64))), .second, .val (.int (p4 &&& (3 : Int32))), .val (.long q3), .second, .val (.ref b79), .unset, .unset] [(.long q3), (.ref b79)])) _
          refine st93.trans ?_
          show Steps p.tables e below (T93.setTop (mkF m 98 #[.val (.long q1), .second, .val (.long q2), .second, .val (.long q3), .second, .val (.int p4), .val (.long (q1 &&& (9223372036854775807 : Int64))), .second, .val (.long (q2 &&& (9223372036854775807 : Int64))), .second, .val (.int (p4 &&& (3 : Int32))), .val (.long q3), .second, .val (.ref b79), .unset, .unset] [(.int (own_f4 q3 (q1 &&& (9223372036854775807 : Int64)) ((0 : Int64) + (q2 &&& (9223372036854775807 : Int64)))))])) _
          refine XS.istore X93.here hx rfl (hb hby at_98) rfl (l' := #[.val (.long q1), .second, .val (.long q2), .second, .val (.long q3), .second, .val (.int p4), .val (.long (q1 &&& (9223372036854775807 : Int64))), .second, .val (.long (q2 &&& (9223372036854775807 : Int64))), .second, .val (.int (p4 &&& (3 : Int32))), .val (.long q3), .second, .val (.ref b79), .val (.int (own_f4 q3 (q1 &&& (9223372036854775807 : Int64)) ((0 : Int64) + (q2 &&& (9223372036854775807 : Int64))))), .unset]) rfl ?_
          show Steps p.tables e below (T93.setTop (mkF m 100 #[.val (.long q1), .second, .val (.long q2), .second, .val (.long q3), .second, .val (.int p4), .val (.long (q1 &&& (9223372036854775807 : Int64))), .second, .val (.long (q2 &&& (9223372036854775807 : Int64))), .second, .val (.int (p4 &&& (3 : Int32))), .val (.long q3), .second, .val (.ref b79), .val (.int (own_f4 q3 (q1 &&& (9223372036854775807 : Int64)) ((0 : Int64) + (q2 &&& (9223372036854775807 : Int64))))), .unset] [])) _
          refine XS.lload X93.here hx rfl (hb hby at_100) rfl ?_
          show Steps p.tables e below (T93.setTop (mkF m 102 #[.val (.long q1), .second, .val (.long q2), .second, .val (.long q3), .second, .val (.int p4), .val (.long (q1 &&& (9223372036854775807 : Int64))), .second, .val (.long (q2 &&& (9223372036854775807 : Int64))), .second, .val (.int (p4 &&& (3 : Int32))), .val (.long q3), .second, .val (.ref b79), .val (.int (own_f4 q3 (q1 &&& (9223372036854775807 : Int64)) ((0 : Int64) + (q2 &&& (9223372036854775807 : Int64))))), .unset] [(.long (q1 &&& (9223372036854775807 : Int64)))])) _
          refine XS.lload X93.here hx rfl (hb hby at_102) rfl ?_
          show Steps p.tables e below (T93.setTop (mkF m 104 #[.val (.long q1), .second, .val (.long q2), .second, .val (.long q3), .second, .val (.int p4), .val (.long (q1 &&& (9223372036854775807 : Int64))), .second, .val (.long (q2 &&& (9223372036854775807 : Int64))), .second, .val (.int (p4 &&& (3 : Int32))), .val (.long q3), .second, .val (.ref b79), .val (.int (own_f4 q3 (q1 &&& (9223372036854775807 : Int64)) ((0 : Int64) + (q2 &&& (9223372036854775807 : Int64))))), .unset] [(.long (q2 &&& (9223372036854775807 : Int64))), (.long (q1 &&& (9223372036854775807 : Int64)))])) _
          refine XS.lload X93.here hx rfl (hb hby at_104) rfl ?_
          show Steps p.tables e below (T93.setTop (mkF m 106 #[.val (.long q1), .second, .val (.long q2), .second, .val (.long q3), .second, .val (.int p4), .val (.long (q1 &&& (9223372036854775807 : Int64))), .second, .val (.long (q2 &&& (9223372036854775807 : Int64))), .second, .val (.int (p4 &&& (3 : Int32))), .val (.long q3), .second, .val (.ref b79), .val (.int (own_f4 q3 (q1 &&& (9223372036854775807 : Int64)) ((0 : Int64) + (q2 &&& (9223372036854775807 : Int64))))), .unset] [(.long q3), (.long (q2 &&& (9223372036854775807 : Int64))), (.long (q1 &&& (9223372036854775807 : Int64)))])) _
          refine st95 _ ?_
          show Steps p.tables e below (T95.setTop (mkF m 109 #[.val (.long q1), .second, .val (.long q2), .second, .val (.long q3), .second, .val (.int p4), .val (.long (q1 &&& (9223372036854775807 : Int64))), .second, .val (.long (q2 &&& (9223372036854775807 : Int64))), .second, .val (.int (p4 &&& (3 : Int32))), .val (.long q3), .second, .val (.ref b79), .val (.int (own_f4 q3 (q1 &&& (9223372036854775807 : Int64)) ((0 : Int64) + (q2 &&& (9223372036854775807 : Int64))))), .unset] [(.int (own_f5 (q1 &&& (9223372036854775807 : Int64)) (q2 &&& (9223372036854775807 : Int64)) q3))])) _
          refine XS.istore X95.here hx rfl (hb hby at_109) rfl (l' := #[.val (.long q1), .second, .val (.long q2), .second, .val (.long q3), .second, .val (.int p4), .val (.long (q1 &&& (9223372036854775807 : Int64))), .second, .val (.long (q2 &&& (9223372036854775807 : Int64))), .second, .val (.int (p4 &&& (3 : Int32))), .val (.long q3), .second, .val (.ref b79), .val (.int (own_f4 q3 (q1 &&& (9223372036854775807 : Int64)) ((0 : Int64) + (q2 &&& (9223372036854775807 : Int64))))), .val (.int (own_f5 (q1 &&& (9223372036854775807 : Int64)) (q2 &&& (9223372036854775807 : Int64)) q3))]) rfl ?_
          show Steps p.tables e below (T95.setTop (mkF m 111 #[.val (.long q1), .second, .val (.long q2), .second, .val (.long q3), .second, .val (.int p4), .val (.long (q1 &&& (9223372036854775807 : Int64))), .second, .val (.long (q2 &&& (9223372036854775807 : Int64))), .second, .val (.int (p4 &&& (3 : Int32))), .val (.long q3), .second, .val (.ref b79), .val (.int (own_f4 q3 (q1 &&& (9223372036854775807 : Int64)) ((0 : Int64) + (q2 &&& (9223372036854775807 : Int64))))), .val (.int (own_f5 (q1 &&& (9223372036854775807 : Int64)) (q2 &&& (9223372036854775807 : Int64)) q3))] [])) _
          refine XS.iload X95.here hx rfl (hb hby at_111) rfl ?_
          show Steps p.tables e below (T95.setTop (mkF m 113 #[.val (.long q1), .second, .val (.long q2), .second, .val (.long q3), .second, .val (.int p4), .val (.long (q1 &&& (9223372036854775807 : Int64))), .second, .val (.long (q2 &&& (9223372036854775807 : Int64))), .second, .val (.int (p4 &&& (3 : Int32))), .val (.long q3), .second, .val (.ref b79), .val (.int (own_f4 q3 (q1 &&& (9223372036854775807 : Int64)) ((0 : Int64) + (q2 &&& (9223372036854775807 : Int64))))), .val (.int (own_f5 (q1 &&& (9223372036854775807 : Int64)) (q2 &&& (9223372036854775807 : Int64)) q3))] [(.int (own_f4 q3 (q1 &&& (9223372036854775807 : Int64)) ((0 : Int64) + (q2 &&& (9223372036854775807 : Int64)))))])) _
          refine XS.iload X95.here hx rfl (hb hby at_113) rfl ?_
          exact kt
        by_cases hc13 : (own_f4 q3 (q1 &&& (9223372036854775807 : Int64)) ((0 : Int64) + (q2 &&& (9223372036854775807 : Int64)))) = (own_f5 (q1 &&& (9223372036854775807 : Int64)) (q2 &&& (9223372036854775807 : Int64)) q3)
        ·
          obtain ⟨cq98, kq98, q98a, q98b, q98c⟩ := isOf hZ e95 Q87_0
          obtain ⟨v98, _, ⟨T98, L98, k98, n98⟩, -, X98, ⟨Lc98, hQ98, l98, y98, z98⟩, st98⟩ := X95.virtualBack hx (y := (⟨"com/example/castd/castd/Room", "bytes", "()J"⟩ : MethodName)) (z := (⟨"com/example/castd/castd/Room", "bytes", "()J"⟩ : MethodName)) hown (mvT hZ (hw _ (List.mem_of_getElem? (i := 28) rfl))) (mvT hZ (hw _ (List.mem_of_getElem? (i := 29) rfl))) (notFace_of_selects (args := #[]) (mvT hZ (hw _ (List.mem_of_getElem? (i := 31) rfl)))) (mvT hZ (hw _ (List.mem_of_getElem? (i := 31) rfl))) (mvT hZ (hw _ (List.mem_of_getElem? (i := 30) rfl))) (by decide) (backOf (W := 0) (own_rm6 l Z a0 hw [] b79 ((0 : Int64) + (q2 &&& (9223372036854775807 : Int64))) T87.heap n0 Z91 Q87_1) hZ (hw _ (List.mem_of_getElem? (i := 32) rfl)) (hw _ (List.mem_of_getElem? (i := 3) rfl)) (by decide) (by decide)) q98a q98c (g := (mkF m 120 #[.val (.long q1), .second, .val (.long q2), .second, .val (.long q3), .second, .val (.int p4), .val (.long (q1 &&& (9223372036854775807 : Int64))), .second, .val (.long (q2 &&& (9223372036854775807 : Int64))), .second, .val (.int (p4 &&& (3 : Int32))), .val (.long q3), .second, .val (.ref b79), .val (.int (own_f4 q3 (q1 &&& (9223372036854775807 : Int64)) ((0 : Int64) + (q2 &&& (9223372036854775807 : Int64))))), .val (.int (own_f5 (q1 &&& (9223372036854775807 : Int64)) (q2 &&& (9223372036854775807 : Int64)) q3))] [(.ref b79)])) rfl (by rw [hml]; rfl) (Steps.refl _) (argsL := []) (rest := []) (lenOf own_pd66 rfl) rfl (by show 2 * 0 + _ ≤ _; exact Nat.le_of_eq rfl) (hb hby at_120) (fun _ _ => ⟨rfl, e95, (by decide : 1 + 0 ≤ _), (by decide : 2 + 0 ≤ _)⟩)
          dsimp only [Pt.U, Pt.locs, Pt.cells, Pt.slots] at X98 l98 y98 z98 st98 hQ98
          subst l98 y98 z98
          obtain ⟨hv98, N98q, e98⟩ := hQ98
          have N99 := Fr.app N96 N98q
          rw [show (own_f6 ((0 : Int64) + (q2 &&& (9223372036854775807 : Int64)))) = ((0 : Int64) + (q2 &&& (9223372036854775807 : Int64))) from by first | rfl | decide | simp [own_f6]] at hv98
          subst hv98
          have k100 : ∀ t, Steps p.tables e below (T98.setTop (mkF m 126 #[.val (.long q1), .second, .val (.long q2), .second, .val (.long q3), .second, .val (.int p4), .val (.long (q1 &&& (9223372036854775807 : Int64))), .second, .val (.long (q2 &&& (9223372036854775807 : Int64))), .second, .val (.int (p4 &&& (3 : Int32))), .val (.long q3), .second, .val (.ref b79), .val (.int (own_f4 q3 (q1 &&& (9223372036854775807 : Int64)) ((0 : Int64) + (q2 &&& (9223372036854775807 : Int64))))), .val (.int (own_f5 (q1 &&& (9223372036854775807 : Int64)) (q2 &&& (9223372036854775807 : Int64)) q3))] [(.int (lcmpW ((0 : Int64) + (q2 &&& (9223372036854775807 : Int64))) (q2 &&& (9223372036854775807 : Int64))))])) t → Steps p.tables e below (s₁.setTop (entryFrame m #[(.long q1), (.long q2), (.long q3), (.int p4)] maxLocals)) t := by
            intro t kt
            refine k97 t ?_
            show Steps p.tables e below (T95.setTop (mkF m 115 #[.val (.long q1), .second, .val (.long q2), .second, .val (.long q3), .second, .val (.int p4), .val (.long (q1 &&& (9223372036854775807 : Int64))), .second, .val (.long (q2 &&& (9223372036854775807 : Int64))), .second, .val (.int (p4 &&& (3 : Int32))), .val (.long q3), .second, .val (.ref b79), .val (.int (own_f4 q3 (q1 &&& (9223372036854775807 : Int64)) ((0 : Int64) + (q2 &&& (9223372036854775807 : Int64))))), .val (.int (own_f5 (q1 &&& (9223372036854775807 : Int64)) (q2 &&& (9223372036854775807 : Int64)) q3))] [(.int (own_f5 (q1 &&& (9223372036854775807 : Int64)) (q2 &&& (9223372036854775807 : Int64)) q3)), (.int (own_f4 q3 (q1 &&& (9223372036854775807 : Int64)) ((0 : Int64) + (q2 &&& (9223372036854775807 : Int64)))))])) _
            refine XS.icmpNo X95.here hx rfl (hb hby at_115) rfl (teq hc13).2 ?_
            show Steps p.tables e below (T95.setTop (mkF m 118 #[.val (.long q1), .second, .val (.long q2), .second, .val (.long q3), .second, .val (.int p4), .val (.long (q1 &&& (9223372036854775807 : Int64))), .second, .val (.long (q2 &&& (9223372036854775807 : Int64))), .second, .val (.int (p4 &&& (3 : Int32))), .val (.long q3), .second, .val (.ref b79), .val (.int (own_f4 q3 (q1 &&& (9223372036854775807 : Int64)) ((0 : Int64) + (q2 &&& (9223372036854775807 : Int64))))), .val (.int (own_f5 (q1 &&& (9223372036854775807 : Int64)) (q2 &&& (9223372036854775807 : Int64)) q3))] [])) _
            refine XS.aload X95.here hx rfl (hb hby at_118) rfl rfl ?_
            show Steps p.tables e below (T95.setTop (mkF m 120 #[.val (.long q1), .second, .val (.long q2), .second, .val (.long q3), .second, .val (.int p4), .val (.long (q1 &&& (9223372036854775807 : Int64))), .second, .val (.long (q2 &&& (9223372036854775807 : Int64))), .second, .val (.int (p4 &&& (3 : Int32))), .val (.long q3), .second, .val (.ref b79), .val (.int (own_f4 q3 (q1 &&& (9223372036854775807 : Int64)) ((0 : Int64) + (q2 &&& (9223372036854775807 : Int64))))), .val (.int (own_f5 (q1 &&& (9223372036854775807 : Int64)) (q2 &&& (9223372036854775807 : Int64)) q3))] [(.ref b79)])) _
            refine st98.trans ?_
            show Steps p.tables e below (T98.setTop (mkF m 123 #[.val (.long q1), .second, .val (.long q2), .second, .val (.long q3), .second, .val (.int p4), .val (.long (q1 &&& (9223372036854775807 : Int64))), .second, .val (.long (q2 &&& (9223372036854775807 : Int64))), .second, .val (.int (p4 &&& (3 : Int32))), .val (.long q3), .second, .val (.ref b79), .val (.int (own_f4 q3 (q1 &&& (9223372036854775807 : Int64)) ((0 : Int64) + (q2 &&& (9223372036854775807 : Int64))))), .val (.int (own_f5 (q1 &&& (9223372036854775807 : Int64)) (q2 &&& (9223372036854775807 : Int64)) q3))] [(.long ((0 : Int64) + (q2 &&& (9223372036854775807 : Int64))))])) _
            refine XS.lload X98.here hx rfl (hb hby at_123) rfl ?_
            show Steps p.tables e below (T98.setTop (mkF m 125 #[.val (.long q1), .second, .val (.long q2), .second, .val (.long q3), .second, .val (.int p4), .val (.long (q1 &&& (9223372036854775807 : Int64))), .second, .val (.long (q2 &&& (9223372036854775807 : Int64))), .second, .val (.int (p4 &&& (3 : Int32))), .val (.long q3), .second, .val (.ref b79), .val (.int (own_f4 q3 (q1 &&& (9223372036854775807 : Int64)) ((0 : Int64) + (q2 &&& (9223372036854775807 : Int64))))), .val (.int (own_f5 (q1 &&& (9223372036854775807 : Int64)) (q2 &&& (9223372036854775807 : Int64)) q3))] [(.long (q2 &&& (9223372036854775807 : Int64))), (.long ((0 : Int64) + (q2 &&& (9223372036854775807 : Int64))))])) _
            refine XS.lcmp X98.here hx rfl (hb hby at_125) rfl ?_
            exact kt
          by_cases hc14 : (lcmpW ((0 : Int64) + (q2 &&& (9223372036854775807 : Int64))) (q2 &&& (9223372036854775807 : Int64))) = (0 : Int32)
          ·
            obtain ⟨cq101, kq101, q101a, q101b, q101c⟩ := isOf hZ e98 Q87_0
            obtain ⟨v101, _, ⟨T101, L101, k101, n101⟩, -, X101, ⟨Lc101, hQ101, l101, y101, z101⟩, st101⟩ := X98.virtualBack hx (y := (⟨"com/example/castd/castd/Room", "maxBytes", "()J"⟩ : MethodName)) (z := (⟨"com/example/castd/castd/Room", "maxBytes", "()J"⟩ : MethodName)) hown (mvT hZ (hw _ (List.mem_of_getElem? (i := 33) rfl))) (mvT hZ (hw _ (List.mem_of_getElem? (i := 34) rfl))) (notFace_of_selects (args := #[]) (mvT hZ (hw _ (List.mem_of_getElem? (i := 36) rfl)))) (mvT hZ (hw _ (List.mem_of_getElem? (i := 36) rfl))) (mvT hZ (hw _ (List.mem_of_getElem? (i := 35) rfl))) (by decide) (backOf (W := 0) (own_rm7 l Z a0 hw [] b79 (q1 &&& (9223372036854775807 : Int64)) T87.heap n0 Z91 Q87_2) hZ (hw _ (List.mem_of_getElem? (i := 37) rfl)) (hw _ (List.mem_of_getElem? (i := 3) rfl)) (by decide) (by decide)) q101a q101c (g := (mkF m 131 #[.val (.long q1), .second, .val (.long q2), .second, .val (.long q3), .second, .val (.int p4), .val (.long (q1 &&& (9223372036854775807 : Int64))), .second, .val (.long (q2 &&& (9223372036854775807 : Int64))), .second, .val (.int (p4 &&& (3 : Int32))), .val (.long q3), .second, .val (.ref b79), .val (.int (own_f4 q3 (q1 &&& (9223372036854775807 : Int64)) ((0 : Int64) + (q2 &&& (9223372036854775807 : Int64))))), .val (.int (own_f5 (q1 &&& (9223372036854775807 : Int64)) (q2 &&& (9223372036854775807 : Int64)) q3))] [(.ref b79)])) rfl (by rw [hml]; rfl) (Steps.refl _) (argsL := []) (rest := []) (lenOf own_pd66 rfl) rfl (by show 2 * 0 + _ ≤ _; exact Nat.le_of_eq rfl) (hb hby at_131) (fun _ _ => ⟨rfl, e98, (by decide : 1 + 0 ≤ _), (by decide : 2 + 0 ≤ _)⟩)
            dsimp only [Pt.U, Pt.locs, Pt.cells, Pt.slots] at X101 l101 y101 z101 st101 hQ101
            subst l101 y101 z101
            obtain ⟨hv101, N101q, e101⟩ := hQ101
            have N102 := Fr.app N99 N101q
            rw [show (own_f7 (q1 &&& (9223372036854775807 : Int64))) = (q1 &&& (9223372036854775807 : Int64)) from by first | rfl | decide | simp [own_f7]] at hv101
            subst hv101
            have k103 : ∀ t, Steps p.tables e below (T101.setTop (mkF m 137 #[.val (.long q1), .second, .val (.long q2), .second, .val (.long q3), .second, .val (.int p4), .val (.long (q1 &&& (9223372036854775807 : Int64))), .second, .val (.long (q2 &&& (9223372036854775807 : Int64))), .second, .val (.int (p4 &&& (3 : Int32))), .val (.long q3), .second, .val (.ref b79), .val (.int (own_f4 q3 (q1 &&& (9223372036854775807 : Int64)) ((0 : Int64) + (q2 &&& (9223372036854775807 : Int64))))), .val (.int (own_f5 (q1 &&& (9223372036854775807 : Int64)) (q2 &&& (9223372036854775807 : Int64)) q3))] [(.int (lcmpW (q1 &&& (9223372036854775807 : Int64)) (q1 &&& (9223372036854775807 : Int64))))])) t → Steps p.tables e below (s₁.setTop (entryFrame m #[(.long q1), (.long q2), (.long q3), (.int p4)] maxLocals)) t := by
              intro t kt
              refine k100 t ?_
              show Steps p.tables e below (T98.setTop (mkF m 126 #[.val (.long q1), .second, .val (.long q2), .second, .val (.long q3), .second, .val (.int p4), .val (.long (q1 &&& (9223372036854775807 : Int64))), .second, .val (.long (q2 &&& (9223372036854775807 : Int64))), .second, .val (.int (p4 &&& (3 : Int32))), .val (.long q3), .second, .val (.ref b79), .val (.int (own_f4 q3 (q1 &&& (9223372036854775807 : Int64)) ((0 : Int64) + (q2 &&& (9223372036854775807 : Int64))))), .val (.int (own_f5 (q1 &&& (9223372036854775807 : Int64)) (q2 &&& (9223372036854775807 : Int64)) q3))] [(.int (lcmpW ((0 : Int64) + (q2 &&& (9223372036854775807 : Int64))) (q2 &&& (9223372036854775807 : Int64))))])) _
              refine XS.ifNo X98.here hx rfl (hb hby at_126) rfl ((if0 _ _).trans (teq hc14).2) ?_
              show Steps p.tables e below (T98.setTop (mkF m 129 #[.val (.long q1), .second, .val (.long q2), .second, .val (.long q3), .second, .val (.int p4), .val (.long (q1 &&& (9223372036854775807 : Int64))), .second, .val (.long (q2 &&& (9223372036854775807 : Int64))), .second, .val (.int (p4 &&& (3 : Int32))), .val (.long q3), .second, .val (.ref b79), .val (.int (own_f4 q3 (q1 &&& (9223372036854775807 : Int64)) ((0 : Int64) + (q2 &&& (9223372036854775807 : Int64))))), .val (.int (own_f5 (q1 &&& (9223372036854775807 : Int64)) (q2 &&& (9223372036854775807 : Int64)) q3))] [])) _
              refine XS.aload X98.here hx rfl (hb hby at_129) rfl rfl ?_
              show Steps p.tables e below (T98.setTop (mkF m 131 #[.val (.long q1), .second, .val (.long q2), .second, .val (.long q3), .second, .val (.int p4), .val (.long (q1 &&& (9223372036854775807 : Int64))), .second, .val (.long (q2 &&& (9223372036854775807 : Int64))), .second, .val (.int (p4 &&& (3 : Int32))), .val (.long q3), .second, .val (.ref b79), .val (.int (own_f4 q3 (q1 &&& (9223372036854775807 : Int64)) ((0 : Int64) + (q2 &&& (9223372036854775807 : Int64))))), .val (.int (own_f5 (q1 &&& (9223372036854775807 : Int64)) (q2 &&& (9223372036854775807 : Int64)) q3))] [(.ref b79)])) _
              refine st101.trans ?_
              show Steps p.tables e below (T101.setTop (mkF m 134 #[.val (.long q1), .second, .val (.long q2), .second, .val (.long q3), .second, .val (.int p4), .val (.long (q1 &&& (9223372036854775807 : Int64))), .second, .val (.long (q2 &&& (9223372036854775807 : Int64))), .second, .val (.int (p4 &&& (3 : Int32))), .val (.long q3), .second, .val (.ref b79), .val (.int (own_f4 q3 (q1 &&& (9223372036854775807 : Int64)) ((0 : Int64) + (q2 &&& (9223372036854775807 : Int64))))), .val (.int (own_f5 (q1 &&& (9223372036854775807 : Int64)) (q2 &&& (9223372036854775807 : Int64)) q3))] [(.long (q1 &&& (9223372036854775807 : Int64)))])) _
              refine XS.lload X101.here hx rfl (hb hby at_134) rfl ?_
              show Steps p.tables e below (T101.setTop (mkF m 136 #[.val (.long q1), .second, .val (.long q2), .second, .val (.long q3), .second, .val (.int p4), .val (.long (q1 &&& (9223372036854775807 : Int64))), .second, .val (.long (q2 &&& (9223372036854775807 : Int64))), .second, .val (.int (p4 &&& (3 : Int32))), .val (.long q3), .second, .val (.ref b79), .val (.int (own_f4 q3 (q1 &&& (9223372036854775807 : Int64)) ((0 : Int64) + (q2 &&& (9223372036854775807 : Int64))))), .val (.int (own_f5 (q1 &&& (9223372036854775807 : Int64)) (q2 &&& (9223372036854775807 : Int64)) q3))] [(.long (q1 &&& (9223372036854775807 : Int64))), (.long (q1 &&& (9223372036854775807 : Int64)))])) _
              refine XS.lcmp X101.here hx rfl (hb hby at_136) rfl ?_
              exact kt
            by_cases hc15 : (lcmpW (q1 &&& (9223372036854775807 : Int64)) (q1 &&& (9223372036854775807 : Int64))) = (0 : Int32)
            ·
              obtain ⟨fs, hr, hrun, hended, hW, hsame⟩ := X101.leave (v := some (.int (1 : Int32))) (fun h => by rw [Bd.returns] at h; cases h)
              refine ⟨_, _, k103 _ ?_, hrun, hended, _, _, rfl, ?_, ⟨_, rfl⟩, hW, hsame.mono (by decide) (by decide)⟩
              · show Steps p.tables e below (T101.setTop (mkF m 137 #[.val (.long q1), .second, .val (.long q2), .second, .val (.long q3), .second, .val (.int p4), .val (.long (q1 &&& (9223372036854775807 : Int64))), .second, .val (.long (q2 &&& (9223372036854775807 : Int64))), .second, .val (.int (p4 &&& (3 : Int32))), .val (.long q3), .second, .val (.ref b79), .val (.int (own_f4 q3 (q1 &&& (9223372036854775807 : Int64)) ((0 : Int64) + (q2 &&& (9223372036854775807 : Int64))))), .val (.int (own_f5 (q1 &&& (9223372036854775807 : Int64)) (q2 &&& (9223372036854775807 : Int64)) q3))] [(.int (lcmpW (q1 &&& (9223372036854775807 : Int64)) (q1 &&& (9223372036854775807 : Int64))))])) _
                refine XS.ifNo X101.here hx rfl (hb hby at_137) rfl ((if0 _ _).trans (teq hc15).2) ?_
                show Steps p.tables e below (T101.setTop (mkF m 140 #[.val (.long q1), .second, .val (.long q2), .second, .val (.long q3), .second, .val (.int p4), .val (.long (q1 &&& (9223372036854775807 : Int64))), .second, .val (.long (q2 &&& (9223372036854775807 : Int64))), .second, .val (.int (p4 &&& (3 : Int32))), .val (.long q3), .second, .val (.ref b79), .val (.int (own_f4 q3 (q1 &&& (9223372036854775807 : Int64)) ((0 : Int64) + (q2 &&& (9223372036854775807 : Int64))))), .val (.int (own_f5 (q1 &&& (9223372036854775807 : Int64)) (q2 &&& (9223372036854775807 : Int64)) q3))] [])) _
                refine XS.iconst X101.here hx rfl (hb hby at_140) ?_
                show Steps p.tables e below (T101.setTop (mkF m 141 #[.val (.long q1), .second, .val (.long q2), .second, .val (.long q3), .second, .val (.int p4), .val (.long (q1 &&& (9223372036854775807 : Int64))), .second, .val (.long (q2 &&& (9223372036854775807 : Int64))), .second, .val (.int (p4 &&& (3 : Int32))), .val (.long q3), .second, .val (.ref b79), .val (.int (own_f4 q3 (q1 &&& (9223372036854775807 : Int64)) ((0 : Int64) + (q2 &&& (9223372036854775807 : Int64))))), .val (.int (own_f5 (q1 &&& (9223372036854775807 : Int64)) (q2 &&& (9223372036854775807 : Int64)) q3))] [(.int (1 : Int32))])) _
                refine XS.goto X101.here hx rfl (pc0 := 141) (pc' := 145) rfl (hb hby at_141) (by decide) (by decide) ?_
                show Steps p.tables e below (T101.setTop (mkF m 145 #[.val (.long q1), .second, .val (.long q2), .second, .val (.long q3), .second, .val (.int p4), .val (.long (q1 &&& (9223372036854775807 : Int64))), .second, .val (.long (q2 &&& (9223372036854775807 : Int64))), .second, .val (.int (p4 &&& (3 : Int32))), .val (.long q3), .second, .val (.ref b79), .val (.int (own_f4 q3 (q1 &&& (9223372036854775807 : Int64)) ((0 : Int64) + (q2 &&& (9223372036854775807 : Int64))))), .val (.int (own_f5 (q1 &&& (9223372036854775807 : Int64)) (q2 &&& (9223372036854775807 : Int64)) q3))] [(.int (1 : Int32))])) _
                exact retN X101 hx (t := .boolean) Bd.returns (by simp) (hb hby at_145) hr
              · show own_Q0 Z q1 q2 q3 p4 h0 n0 _ T101.heap _
                rw [e101]
                exact ⟨(by rw [own_f0, if_neg hc1, if_neg hc5, if_neg hc9, if_pos hc13, if_pos hc14, if_pos hc15]), N102⟩
            ·
              obtain ⟨fs, hr, hrun, hended, hW, hsame⟩ := X101.leave (v := some (.int (0 : Int32))) (fun h => by rw [Bd.returns] at h; cases h)
              refine ⟨_, _, k103 _ ?_, hrun, hended, _, _, rfl, ?_, ⟨_, rfl⟩, hW, hsame.mono (by decide) (by decide)⟩
              · show Steps p.tables e below (T101.setTop (mkF m 137 #[.val (.long q1), .second, .val (.long q2), .second, .val (.long q3), .second, .val (.int p4), .val (.long (q1 &&& (9223372036854775807 : Int64))), .second, .val (.long (q2 &&& (9223372036854775807 : Int64))), .second, .val (.int (p4 &&& (3 : Int32))), .val (.long q3), .second, .val (.ref b79), .val (.int (own_f4 q3 (q1 &&& (9223372036854775807 : Int64)) ((0 : Int64) + (q2 &&& (9223372036854775807 : Int64))))), .val (.int (own_f5 (q1 &&& (9223372036854775807 : Int64)) (q2 &&& (9223372036854775807 : Int64)) q3))] [(.int (lcmpW (q1 &&& (9223372036854775807 : Int64)) (q1 &&& (9223372036854775807 : Int64))))])) _
                refine XS.ifYes X101.here hx rfl (pc0 := 137) (pc' := 144) rfl (hb hby at_137) rfl ((if0 _ _).trans (feq hc15).2) (by decide) (by decide) ?_
                show Steps p.tables e below (T101.setTop (mkF m 144 #[.val (.long q1), .second, .val (.long q2), .second, .val (.long q3), .second, .val (.int p4), .val (.long (q1 &&& (9223372036854775807 : Int64))), .second, .val (.long (q2 &&& (9223372036854775807 : Int64))), .second, .val (.int (p4 &&& (3 : Int32))), .val (.long q3), .second, .val (.ref b79), .val (.int (own_f4 q3 (q1 &&& (9223372036854775807 : Int64)) ((0 : Int64) + (q2 &&& (9223372036854775807 : Int64))))), .val (.int (own_f5 (q1 &&& (9223372036854775807 : Int64)) (q2 &&& (9223372036854775807 : Int64)) q3))] [])) _
                refine XS.iconst X101.here hx rfl (hb hby at_144) ?_
                show Steps p.tables e below (T101.setTop (mkF m 145 #[.val (.long q1), .second, .val (.long q2), .second, .val (.long q3), .second, .val (.int p4), .val (.long (q1 &&& (9223372036854775807 : Int64))), .second, .val (.long (q2 &&& (9223372036854775807 : Int64))), .second, .val (.int (p4 &&& (3 : Int32))), .val (.long q3), .second, .val (.ref b79), .val (.int (own_f4 q3 (q1 &&& (9223372036854775807 : Int64)) ((0 : Int64) + (q2 &&& (9223372036854775807 : Int64))))), .val (.int (own_f5 (q1 &&& (9223372036854775807 : Int64)) (q2 &&& (9223372036854775807 : Int64)) q3))] [(.int (0 : Int32))])) _
                exact retN X101 hx (t := .boolean) Bd.returns (by simp) (hb hby at_145) hr
              · show own_Q0 Z q1 q2 q3 p4 h0 n0 _ T101.heap _
                rw [e101]
                exact ⟨(by rw [own_f0, if_neg hc1, if_neg hc5, if_neg hc9, if_pos hc13, if_pos hc14, if_neg hc15]), N102⟩
          ·
            obtain ⟨fs, hr, hrun, hended, hW, hsame⟩ := X98.leave (v := some (.int (0 : Int32))) (fun h => by rw [Bd.returns] at h; cases h)
            refine ⟨_, _, k100 _ ?_, hrun, hended, _, _, rfl, ?_, ⟨_, rfl⟩, hW, hsame.mono (by decide) (by decide)⟩
            · show Steps p.tables e below (T98.setTop (mkF m 126 #[.val (.long q1), .second, .val (.long q2), .second, .val (.long q3), .second, .val (.int p4), .val (.long (q1 &&& (9223372036854775807 : Int64))), .second, .val (.long (q2 &&& (9223372036854775807 : Int64))), .second, .val (.int (p4 &&& (3 : Int32))), .val (.long q3), .second, .val (.ref b79), .val (.int (own_f4 q3 (q1 &&& (9223372036854775807 : Int64)) ((0 : Int64) + (q2 &&& (9223372036854775807 : Int64))))), .val (.int (own_f5 (q1 &&& (9223372036854775807 : Int64)) (q2 &&& (9223372036854775807 : Int64)) q3))] [(.int (lcmpW ((0 : Int64) + (q2 &&& (9223372036854775807 : Int64))) (q2 &&& (9223372036854775807 : Int64))))])) _
              refine XS.ifYes X98.here hx rfl (pc0 := 126) (pc' := 144) rfl (hb hby at_126) rfl ((if0 _ _).trans (feq hc14).2) (by decide) (by decide) ?_
              show Steps p.tables e below (T98.setTop (mkF m 144 #[.val (.long q1), .second, .val (.long q2), .second, .val (.long q3), .second, .val (.int p4), .val (.long (q1 &&& (9223372036854775807 : Int64))), .second, .val (.long (q2 &&& (9223372036854775807 : Int64))), .second, .val (.int (p4 &&& (3 : Int32))), .val (.long q3), .second, .val (.ref b79), .val (.int (own_f4 q3 (q1 &&& (9223372036854775807 : Int64)) ((0 : Int64) + (q2 &&& (9223372036854775807 : Int64))))), .val (.int (own_f5 (q1 &&& (9223372036854775807 : Int64)) (q2 &&& (9223372036854775807 : Int64)) q3))] [])) _
              refine XS.iconst X98.here hx rfl (hb hby at_144) ?_
              show Steps p.tables e below (T98.setTop (mkF m 145 #[.val (.long q1), .second, .val (.long q2), .second, .val (.long q3), .second, .val (.int p4), .val (.long (q1 &&& (9223372036854775807 : Int64))), .second, .val (.long (q2 &&& (9223372036854775807 : Int64))), .second, .val (.int (p4 &&& (3 : Int32))), .val (.long q3), .second, .val (.ref b79), .val (.int (own_f4 q3 (q1 &&& (9223372036854775807 : Int64)) ((0 : Int64) + (q2 &&& (9223372036854775807 : Int64))))), .val (.int (own_f5 (q1 &&& (9223372036854775807 : Int64)) (q2 &&& (9223372036854775807 : Int64)) q3))] [(.int (0 : Int32))])) _
              exact retN X98 hx (t := .boolean) Bd.returns (by simp) (hb hby at_145) hr
            · show own_Q0 Z q1 q2 q3 p4 h0 n0 _ T98.heap _
              rw [e98]
              exact ⟨(by rw [own_f0, if_neg hc1, if_neg hc5, if_neg hc9, if_pos hc13, if_neg hc14]), N99⟩
        ·
          obtain ⟨fs, hr, hrun, hended, hW, hsame⟩ := X95.leave (v := some (.int (0 : Int32))) (fun h => by rw [Bd.returns] at h; cases h)
          refine ⟨_, _, k97 _ ?_, hrun, hended, _, _, rfl, ?_, ⟨_, rfl⟩, hW, hsame.mono (by decide) (by decide)⟩
          · show Steps p.tables e below (T95.setTop (mkF m 115 #[.val (.long q1), .second, .val (.long q2), .second, .val (.long q3), .second, .val (.int p4), .val (.long (q1 &&& (9223372036854775807 : Int64))), .second, .val (.long (q2 &&& (9223372036854775807 : Int64))), .second, .val (.int (p4 &&& (3 : Int32))), .val (.long q3), .second, .val (.ref b79), .val (.int (own_f4 q3 (q1 &&& (9223372036854775807 : Int64)) ((0 : Int64) + (q2 &&& (9223372036854775807 : Int64))))), .val (.int (own_f5 (q1 &&& (9223372036854775807 : Int64)) (q2 &&& (9223372036854775807 : Int64)) q3))] [(.int (own_f5 (q1 &&& (9223372036854775807 : Int64)) (q2 &&& (9223372036854775807 : Int64)) q3)), (.int (own_f4 q3 (q1 &&& (9223372036854775807 : Int64)) ((0 : Int64) + (q2 &&& (9223372036854775807 : Int64)))))])) _
            refine XS.icmpYes X95.here hx rfl (pc0 := 115) (pc' := 144) rfl (hb hby at_115) rfl (feq hc13).2 (by decide) (by decide) ?_
            show Steps p.tables e below (T95.setTop (mkF m 144 #[.val (.long q1), .second, .val (.long q2), .second, .val (.long q3), .second, .val (.int p4), .val (.long (q1 &&& (9223372036854775807 : Int64))), .second, .val (.long (q2 &&& (9223372036854775807 : Int64))), .second, .val (.int (p4 &&& (3 : Int32))), .val (.long q3), .second, .val (.ref b79), .val (.int (own_f4 q3 (q1 &&& (9223372036854775807 : Int64)) ((0 : Int64) + (q2 &&& (9223372036854775807 : Int64))))), .val (.int (own_f5 (q1 &&& (9223372036854775807 : Int64)) (q2 &&& (9223372036854775807 : Int64)) q3))] [])) _
            refine XS.iconst X95.here hx rfl (hb hby at_144) ?_
            show Steps p.tables e below (T95.setTop (mkF m 145 #[.val (.long q1), .second, .val (.long q2), .second, .val (.long q3), .second, .val (.int p4), .val (.long (q1 &&& (9223372036854775807 : Int64))), .second, .val (.long (q2 &&& (9223372036854775807 : Int64))), .second, .val (.int (p4 &&& (3 : Int32))), .val (.long q3), .second, .val (.ref b79), .val (.int (own_f4 q3 (q1 &&& (9223372036854775807 : Int64)) ((0 : Int64) + (q2 &&& (9223372036854775807 : Int64))))), .val (.int (own_f5 (q1 &&& (9223372036854775807 : Int64)) (q2 &&& (9223372036854775807 : Int64)) q3))] [(.int (0 : Int32))])) _
            exact retN X95 hx (t := .boolean) Bd.returns (by simp) (hb hby at_145) hr
          · show own_Q0 Z q1 q2 q3 p4 h0 n0 _ T95.heap _
            rw [e95]
            exact ⟨(by rw [own_f0, if_neg hc1, if_neg hc5, if_neg hc9, if_neg hc13]), N96⟩
theorem own_mx (x : Int64) : 0 ≤ (x &&& 9223372036854775807).toInt := by
  have := c_maskL x 9223372036854775807 63 (by decide) (by decide)
  omega
theorem own_z0 (x : Int64) : (0 : Int64) + x = x := by simp
theorem own_key (m b t : Int64) (hm : 0 ≤ m.toInt) (hb : 0 ≤ b.toInt) : own_f4 t m b = own_f5 m b t := by
  have r1 := rng64 m; have r2 := rng64 b; have r3 := rng64 t
  have s1 := c_lsub m b; have q1 := rng64 (m - b)
  have s2 := c_lsub m t; have q2 := rng64 (m - t)
  have s3 := c_ladd t b; have q3 := rng64 (t + b)
  unfold own_f4 own_f5
  simp only [lw_lt, lw_gt, lw_eq, Int64.lt_iff_toInt_lt, show (0 : Int64).toInt = 0 from by decide]
  repeat' split
  all_goals first | rfl | omega
theorem own_law (q1 q2 q3 : Int64) (p4 : Int32) : own_f0 q1 q2 q3 p4 = 1 := by
  have hk := fun t => own_key (q1 &&& 9223372036854775807) (q2 &&& 9223372036854775807) t (own_mx _) (own_mx _)
  have hl : ∀ x : Int64, lcmpW x x = 0 := fun x => (lw_eq x x).mpr rfl
  unfold own_f0
  simp only [own_f6, own_f7, own_z0, hk, hl, if_true, ite_self]
set_option maxRecDepth 65536 in
set_option maxHeartbeats 40000000 in
theorem comes_1 {Post : Tables → Env → Array Value → State → Outcome → State → Prop} (hpost : ∀ tb e args s v u, (limb_1_1.after args s (.returned v) u = true ∧ limb_1_2.after args s (.returned v) u = true ∧ True) → FrameEnd s (.returned v) u (Jvm.fieldLocs frame_1_writes args s ++ Jvm.arrayLocs frame_1_arrays args s ++ Jvm.staticLocs frame_1_statics s) 16 128 → Post tb e args s (.returned v) u) :
    ArmFor flags0 classFile x code maxLocals ret World_1 tables_1 room_1 Calls_1 rest_1 Pre_1 Post := by
  intro l hfl _ _ p e ha hc hk s m args below hf hA hF happ hP
  obtain ⟨hcalls, hrest, hpre⟩ := hP
  obtain ⟨-, -, -, hnamed, -, -, -, hat⟩ := (Spec.applies_iff hf).mp happ
  obtain ⟨hg, hn⟩ := and_e (Cond.before_iff.mp (show (Jvm.Cond.and given_1 narrow_1).before args s = true from hpre))
  obtain ⟨gg1, gg2⟩ := and_e hg
  obtain ⟨gg3, gg4⟩ := and_e gg2
  obtain ⟨gg5, gg6⟩ := and_e gg4
  obtain ⟨gg7, gg8⟩ := and_e gg6
  obtain ⟨w0, w1, w2, w3, rfl⟩ : ∃ w0 w1 w2 w3 : Value, args = #[w0, w1, w2, w3] := by
    have hs : args.size = 4 := by simpa [Cond.value, given_1] using gg1
    obtain ⟨L⟩ := args
    match L, hs with
    | [w0, w1, w2, w3], _ => exact ⟨w0, w1, w2, w3, rfl⟩
  have hw := fun d (hd : d ∈ tables_1) => atoms_spec (ws := Jvm.Cond.code x code maxLocals ret :: tables_1) hat d (List.mem_cons_of_mem _ hd)
  have hfit : Fit s := fun {y c} hc i hi => by
    obtain ⟨ha, rfl⟩ := Array.getElem?_eq_some_iff.mp hc
    have q := List.all_eq_true.mp ((Array.all_eq_true_iff_forall_mem.mp hF) _ (Array.getElem_mem ha)) i (List.mem_range.mpr hi)
    simpa [Array.getElem?_eq_getElem hi] using q
  obtain ⟨i0, ei0⟩ := isL_v gg3
  obtain rfl : w0 = (.long i0) := Option.some.inj ei0
  obtain ⟨i1, ei1⟩ := isL_v gg5
  obtain rfl : w1 = (.long i1) := Option.some.inj ei1
  obtain ⟨i2, ei2⟩ := isL_v gg7
  obtain rfl : w2 = (.long i2) := Option.some.inj ei2
  obtain ⟨i3, ei3⟩ := is_v gg8
  obtain rfl : w3 = (.int i3) := Option.some.inj ei3
  obtain ⟨n, o, h1, h2, h3, _, L, rfl, ⟨rfl, N⟩, hq⟩ := own_rm0 l s _ hw tables_1 i0 i1 i2 i3 s.heap s.heap.size (Nat.le_refl _) p e ha hc hk s m _ below hf ((Spec.applies_iff_loose hf).mp happ).1 ⟨rfl, State.Warmed39.refl s, rfl⟩ trivial
  refine ⟨n, _, h1, h2, h3, hpost _ _ _ _ _ _ ⟨Cond.after_iff.mpr rfl, Cond.after_iff.mpr (eq_i res_at (Term.int_eval (1)) (congrArg Value.int (own_law i0 i1 i2 i3))), trivial⟩ ⟨hq.1, hq.2.1, (hq.2.2.sift fun y hy => Or.inr (N y hy)).mono (by decide) (by decide)⟩⟩
theorem main_1_1 : Claimed_1_1 := comes_1 fun _ _ _ _ _ _ h hF => ⟨h.1, hF⟩
theorem main_1_2 : Claimed_1_2 := comes_1 fun _ _ _ _ _ _ h hF => ⟨h.2.1, hF⟩
end Jvm.Pilot.@@N@@
namespace Jvm.Pilot.@@N@@
open Jvm Jvm.ClassFile Sem Op Lib Jvm.Free Jvm.Stand Jvm.Pilot.@@N@@.Jvm.D
/-! MADE BY PROGRAM (witnessworld.py) out of the Statement's table words and the real class files: 10 classes; the members and pool entries that the words name. The judged class is class 1, her method 1. -/
namespace start1
open Jvm.ClassFile
def u (s : String) : CpInfo := .utf8 (stringToUtf16 s)
/-- a pool by its gaps: so many unusable entries, then the entry; so many at the end -/
def gap : Nat → List CpInfo → List CpInfo
  | 0, r => r
  | n + 1, r => .unusable :: gap n r
def poolList (es : List (Nat × CpInfo)) (last : Nat) : List CpInfo := es.foldr (fun e r => gap e.1 (e.2 :: r)) (gap last [])
def pool (es : List (Nat × CpInfo)) (last : Nat) : Array CpInfo := ⟨poolList es last⟩
def fileOf (pool : Array CpInfo) (this : Nat) (attrs : Array Attribute := #[]) (ms : Array MethodInfo := #[]) (fl : Nat := 33) (sup : Nat := 0) (ifs : Array Nat := #[]) (fds : Array FieldInfo := #[]) : ClassFile where
  minorVersion := 0
  majorVersion := 65
  constantPool := pool
  accessFlags := fl
  thisClass := this
  superClass := sup
  interfaces := ifs
  fields := fds
  methods := ms
  attributes := attrs
def plain (name : String) (sup : Option ClassId) : Class where
  name := name
  kind := .ordinary
  loader := none
  accessFlags := 33
  super := sup
  interfaces := #[]
  cf := none
  fields := #[]
  methods := #[]
  instanceTypes := #[]
  staticTypes := #[]
  resolved := #[]
  callSites := []
  init := .initialized
  statics := none
  mirror := none

def pool0 : Array CpInfo := pool [(5, u "<init>"), (0, u "()V"), (1, .class_ 10), (1, u "java/lang/Object")] 113

def k0c0 : Code := { maxStack := 0, maxLocals := 1, code := object_method_1_code, exceptionTable := #[], attributes := #[] }
def k0m0 : Method := { name := "<init>", desc := "()V", sig := { parameters := [], returnType := none }, accessFlags := 1, code := some k0c0 }
/-- java/lang/Object -/
def k0 : Class := { plain "java/lang/Object" none with
  accessFlags := 33
  interfaces := #[]
  cf := some (fileOf pool0 8 #[] #[{ accessFlags := 1, nameIndex := 5, descriptorIndex := 6, attributes := #[] }] 33 0 #[] #[])
  fields := #[]
  methods := #[k0m0]
  instanceTypes := #[]
  staticTypes := #[]
  resolved := Array.replicate 124 none
  statics := none }

def pool1 : Array CpInfo := pool [(2, .class_ 4), (1, u "java/lang/Object"), (0, u "<init>"), (0, u "()V"), (2, .long 9223372036854775807), (1, .class_ 12), (0, u "com/example/castd/castd/Room"), (0, .methodref 11 14), (0, .nameAndType 5 15), (0, u "(J)V"), (0, .methodref 11 17), (0, .nameAndType 18 15), (0, u "add"), (0, .methodref 11 20), (0, .nameAndType 21 22), (0, u "fits"), (0, u "(J)Z"), (0, .methodref 24 25), (0, .class_ 26), (0, .nameAndType 27 28), (0, u "com/example/castd/castd/RoomFitsPinLaw"), (0, u "expectedFits"), (0, u "(JJJ)Z"), (0, .methodref 11 30), (0, .nameAndType 31 32), (0, u "bytes"), (0, u "()J"), (0, .methodref 11 34), (0, .nameAndType 35 32), (0, u "maxBytes"), (2, u "law"), (0, u "(JJJI)Z")] 3

def k1m0 : Method := { name := "<init>", desc := "()V", sig := { parameters := [], returnType := none }, accessFlags := 1, code := none }
def k1c1 : Code := { maxStack := 6, maxLocals := 17, code := code, exceptionTable := #[], attributes := #[] }
def k1m1 : Method := { name := "law", desc := "(JJJI)Z", sig := { parameters := [.long, .long, .long, .int], returnType := some .boolean }, accessFlags := 9, code := some k1c1 }
def k1c2 : Code := { maxStack := 6, maxLocals := 6, code := method_3_code, exceptionTable := #[], attributes := #[] }
def k1m2 : Method := { name := "expectedFits", desc := "(JJJ)Z", sig := { parameters := [.long, .long, .long], returnType := some .boolean }, accessFlags := 10, code := some k1c2 }
/-- com/example/castd/castd/RoomFitsPinLaw -/
def k1 : Class := { plain "com/example/castd/castd/RoomFitsPinLaw" (some 0) with
  accessFlags := 49
  interfaces := #[]
  cf := some (fileOf pool1 24 #[] #[{ accessFlags := 1, nameIndex := 5, descriptorIndex := 6, attributes := #[] }, { accessFlags := 9, nameIndex := 38, descriptorIndex := 39, attributes := #[] }, { accessFlags := 10, nameIndex := 27, descriptorIndex := 28, attributes := #[] }] 49 2 #[] #[])
  fields := #[]
  methods := #[k1m0, k1m1, k1m2]
  instanceTypes := #[]
  staticTypes := #[]
  resolved := Array.replicate 43 none
  statics := none }

def pool2 : Array CpInfo := pool [(1, .class_ 2), (0, u "com/example/castd/castd/mqtt/PacketDecoder$Allowance"), (0, .class_ 4), (0, u "java/lang/Object"), (7, .class_ 13), (0, u "com/example/castd/castd/mqtt/PacketDecoder")] 2

/-- com/example/castd/castd/mqtt/PacketDecoder$Allowance -/
def k2 : Class := { plain "com/example/castd/castd/mqtt/PacketDecoder$Allowance" (some 0) with
  accessFlags := 1537
  interfaces := #[]
  cf := some (fileOf pool2 1 #[.nestHost 12] #[] 1537 3 #[] #[])
  fields := #[]
  methods := #[]
  instanceTypes := #[]
  staticTypes := #[]
  resolved := Array.replicate 16 none
  statics := none }

def pool3 : Array CpInfo := pool [(1, .methodref 2 3), (0, .class_ 4), (0, .nameAndType 5 6), (0, u "java/lang/Object"), (0, u "<init>"), (0, u "()V"), (0, .fieldref 8 9), (0, .class_ 10), (0, .nameAndType 11 12), (0, u "com/example/castd/castd/Room"), (0, u "maxBytes"), (0, u "J"), (9, u "()J"), (0, .fieldref 8 24), (0, .nameAndType 25 12), (0, u "bytes"), (2, u "fits"), (0, u "(J)Z"), (0, .class_ 31), (0, u "com/example/castd/castd/mqtt/PacketDecoder$Allowance"), (0, u "(J)V"), (7, u "add"), (4, .class_ 46), (0, u "com/example/castd/castd/Room$Share")] 5

def k3c0 : Code := { maxStack := 3, maxLocals := 3, code := prog_38_method_1_code, exceptionTable := #[], attributes := #[] }
def k3m0 : Method := { name := "<init>", desc := "(J)V", sig := { parameters := [.long], returnType := none }, accessFlags := 0, code := some k3c0 }
def k3c1 : Code := { maxStack := 2, maxLocals := 1, code := prog_38_method_4_code, exceptionTable := #[], attributes := #[] }
def k3m1 : Method := { name := "bytes", desc := "()J", sig := { parameters := [], returnType := some .long }, accessFlags := 0, code := some k3c1 }
def k3c2 : Code := { maxStack := 2, maxLocals := 1, code := prog_38_method_5_code, exceptionTable := #[], attributes := #[] }
def k3m2 : Method := { name := "maxBytes", desc := "()J", sig := { parameters := [], returnType := some .long }, accessFlags := 0, code := some k3c2 }
def k3c3 : Code := { maxStack := 6, maxLocals := 3, code := prog_38_method_6_code, exceptionTable := #[], attributes := #[] }
def k3m3 : Method := { name := "fits", desc := "(J)Z", sig := { parameters := [.long], returnType := some .boolean }, accessFlags := 0, code := some k3c3 }
def k3c4 : Code := { maxStack := 5, maxLocals := 3, code := prog_38_method_8_code, exceptionTable := #[], attributes := #[] }
def k3m4 : Method := { name := "add", desc := "(J)V", sig := { parameters := [.long], returnType := none }, accessFlags := 0, code := some k3c4 }
/-- com/example/castd/castd/Room -/
def k3 : Class := { plain "com/example/castd/castd/Room" (some 0) with
  accessFlags := 32
  interfaces := #[2]
  cf := some (fileOf pool3 8 #[.nestMembers #[45]] #[{ accessFlags := 0, nameIndex := 5, descriptorIndex := 32, attributes := #[] }, { accessFlags := 0, nameIndex := 25, descriptorIndex := 22, attributes := #[] }, { accessFlags := 0, nameIndex := 11, descriptorIndex := 22, attributes := #[] }, { accessFlags := 0, nameIndex := 28, descriptorIndex := 29, attributes := #[] }, { accessFlags := 0, nameIndex := 40, descriptorIndex := 32, attributes := #[] }] 32 2 #[30] #[{ accessFlags := 18, nameIndex := 11, descriptorIndex := 12, attributes := #[] }, { accessFlags := 2, nameIndex := 25, descriptorIndex := 12, attributes := #[] }])
  fields := #[{ name := "maxBytes", type := .long, accessFlags := 18, slot := 0, constantValue := 0 }, { name := "bytes", type := .long, accessFlags := 2, slot := 1, constantValue := 0 }]
  methods := #[k3m0, k3m1, k3m2, k3m3, k3m4]
  instanceTypes := #[.long, .long]
  staticTypes := #[]
  resolved := Array.replicate 52 none
  statics := none }

def pool4 : Array CpInfo := pool [(1, u "java/lang/Cloneable"), (0, .class_ 1), (0, u "java/lang/Object"), (0, .class_ 3)] 3

/-- java/lang/Cloneable -/
def k4 : Class := { plain "java/lang/Cloneable" (some 0) with
  accessFlags := 1537
  interfaces := #[]
  cf := some (fileOf pool4 2 #[] #[] 1537 4 #[] #[])
  fields := #[]
  methods := #[]
  instanceTypes := #[]
  staticTypes := #[]
  resolved := Array.replicate 8 none
  statics := none }

def pool5 : Array CpInfo := pool [(1, u "java/io/Serializable"), (0, .class_ 1), (0, u "java/lang/Object"), (0, .class_ 3)] 3

/-- java/io/Serializable -/
def k5 : Class := { plain "java/io/Serializable" (some 0) with
  accessFlags := 1537
  interfaces := #[]
  cf := some (fileOf pool5 2 #[] #[] 1537 4 #[] #[])
  fields := #[]
  methods := #[]
  instanceTypes := #[]
  staticTypes := #[]
  resolved := Array.replicate 8 none
  statics := none }

/-- the primitive byte -/
def k6 : Class := { plain "byte" none with kind := .primitive 'B', accessFlags := 0x411 }
/-- [B -/
def k7 : Class := { plain "[B" (some 0) with kind := .array 6 .byte, interfaces := #[4, 5], accessFlags := 1041 }

/-- the primitive int -/
def k8 : Class := { plain "int" none with kind := .primitive 'I', accessFlags := 0x411 }
/-- [I -/
def k9 : Class := { plain "[I" (some 0) with kind := .array 8 .int, interfaces := #[4, 5], accessFlags := 1041 }

def heap : Heap := #[]
def classes : Array Class := #[k0, k1, k2, k3, k4, k5, k6, k7, k8, k9]
def interned : List (Array UInt16 × Addr) := []
def slotsUsed : Nat := 0
def theMethod : MethodId := ⟨1, 1⟩
def args0 : Array Value := #[.long 5, .long 3, .long 2, .int 0]
def aboutOver (below : List Frame) : State where
  vm := { classes := classes, interned := interned.toArray }
  heap := heap
  slotsUsed := slotsUsed
  threads := #[{ frames := .invoking theMethod args0 :: below }]
def below0 : List Frame := [.native { method := ⟨0, 0⟩, args := #[] }]
def about1 : State := aboutOver below0
def p0 : Program := .bare "" "" ""
def e0 : Env := launch0.env 0 0 0
theorem w_frames : about1.frames = Frame.invoking theMethod args0 :: below0 := rfl
set_option maxRecDepth 65536 in
theorem w_args : argsFit about1.vm theMethod args0 = true := by decide +kernel
set_option maxRecDepth 65536 in
theorem w_heap : heapFits about1 = true := by decide +kernel
set_option maxRecDepth 65536 in
theorem w_runnable : about1.curStatus? = some .runnable := by decide +kernel
set_option maxRecDepth 65536 in
theorem w_alone : about1.alone = true := by decide +kernel
set_option maxRecDepth 65536 in
theorem w_named : about1.methodNamed? x = some theMethod := by decide +kernel
set_option maxRecDepth 65536 in
theorem w_hears : about1.hears theMethod below0 = true := by decide +kernel
set_option maxRecDepth 65536 in
theorem w_ripe : about1.ripe theMethod args0 below0 = true := by decide +kernel
theorem w_running : about1.status = .running := rfl
set_option maxRecDepth 65536 in
theorem w_room : about1.hasRoom e0.platform room_1 = true :=
  launch0.hasRoom_least _ room_1 (by decide +kernel) (by decide +kernel) (by decide +kernel) (by decide +kernel) (by decide +kernel) (by decide +kernel)
theorem allAtoms_all (ts : List Jvm.Cond) (a : Array Jvm.Value) (st : Jvm.State) : (allAtoms ts).before a st = ts.all (fun c => c.before a st) := by
  induction ts with
  | nil => rfl
  | cons c t ih =>
    show (Jvm.Cond.and c (allAtoms t)).before a st = _
    rw [Jvm.Cond.before_and, ih, List.all_cons]
def words1 : List Jvm.Cond := Jvm.Cond.code x code maxLocals ret :: tables_1
/-- a 'code' word, met by the world's own term for the bytes: nothing is compared byte by byte -/
theorem code_word {y : MethodName} {bytes : ByteArray} {mx : Nat} {rt : Option FieldType} {a : Array Value} {s : State} {m : MethodId} {meth : Method} {c : Code} (h1 : s.methodNamed? y = some m) (h2 : s.vm.method? m = some meth) (h3 : meth.code = some c) (h4 : c.code = bytes)
    (h5 : (c.maxLocals == mx && c.exceptionTable.isEmpty && decide (c.maxStack ≤ mostOperands) && decide (meth.sig.returnType = rt) && !meth.locks && decide (parseMethodDescriptor y.desc = some meth.sig)) = true) : (Jvm.Cond.code y bytes mx rt).before a s = true := by
  simp only [Bool.and_eq_true, beq_iff_eq, Bool.not_eq_true', decide_eq_true_eq] at h5
  obtain ⟨⟨⟨⟨⟨g1, g2⟩, g3⟩, g4⟩, g5⟩, g6⟩ := h5
  simp [Cond.before, Cond.holds, Cond.value, h1, h2, h3, h4, g1, g2, g3, g4, g5, g6]
def isCode : Jvm.Cond → Bool
  | .code _ _ _ _ => true
  | _ => false
theorem all_split {L : List Jvm.Cond} {P : Jvm.Cond → Bool} (h1 : L.all (fun c => isCode c || P c) = true) (h2 : ∀ c ∈ L.filter isCode, P c = true) : L.all P = true := by
  refine List.all_eq_true.mpr fun c hc => ?_
  have h := List.all_eq_true.mp h1 c hc
  rcases Bool.eq_false_or_eq_true (isCode c) with hi | hi
  · exact h2 c (List.mem_filter.mpr ⟨hc, hi⟩)
  · simpa [hi] using h
set_option maxRecDepth 65536 in
theorem w_c0 : (Jvm.Cond.code x code maxLocals ret).before args0 about1 = true := code_word (m := ⟨1, 1⟩) (meth := k1m1) (c := k1c1) (by decide +kernel) rfl rfl rfl (by decide +kernel)
set_option maxRecDepth 65536 in
theorem w_c1 : (Jvm.Cond.code ({ cls := "com/example/castd/castd/Room", name := "<init>", desc := "(J)V" } : Jvm.MethodName) prog_38_method_1_code (3 : Nat) (Option.none : Option Jvm.ClassFile.FieldType)).before args0 about1 = true := code_word (m := ⟨3, 0⟩) (meth := k3m0) (c := k3c0) (by decide +kernel) rfl rfl rfl (by decide +kernel)
set_option maxRecDepth 65536 in
theorem w_c2 : (Jvm.Cond.code ({ cls := "java/lang/Object", name := "<init>", desc := "()V" } : Jvm.MethodName) object_method_1_code (1 : Nat) (Option.none : Option Jvm.ClassFile.FieldType)).before args0 about1 = true := code_word (m := ⟨0, 0⟩) (meth := k0m0) (c := k0c0) (by decide +kernel) rfl rfl rfl (by decide +kernel)
set_option maxRecDepth 65536 in
theorem w_c3 : (Jvm.Cond.code ({ cls := "com/example/castd/castd/Room", name := "add", desc := "(J)V" } : Jvm.MethodName) prog_38_method_8_code (3 : Nat) (Option.none : Option Jvm.ClassFile.FieldType)).before args0 about1 = true := code_word (m := ⟨3, 4⟩) (meth := k3m4) (c := k3c4) (by decide +kernel) rfl rfl rfl (by decide +kernel)
set_option maxRecDepth 65536 in
theorem w_c4 : (Jvm.Cond.code ({ cls := "com/example/castd/castd/Room", name := "fits", desc := "(J)Z" } : Jvm.MethodName) prog_38_method_6_code (3 : Nat) (Option.some Jvm.ClassFile.FieldType.boolean)).before args0 about1 = true := code_word (m := ⟨3, 3⟩) (meth := k3m3) (c := k3c3) (by decide +kernel) rfl rfl rfl (by decide +kernel)
set_option maxRecDepth 65536 in
theorem w_c5 : (Jvm.Cond.code ({ cls := "com/example/castd/castd/RoomFitsPinLaw", name := "expectedFits", desc := "(JJJ)Z" } : Jvm.MethodName) method_3_code (6 : Nat) (Option.some Jvm.ClassFile.FieldType.boolean)).before args0 about1 = true := code_word (m := ⟨1, 2⟩) (meth := k1m2) (c := k1c2) (by decide +kernel) rfl rfl rfl (by decide +kernel)
set_option maxRecDepth 65536 in
theorem w_c6 : (Jvm.Cond.code ({ cls := "com/example/castd/castd/Room", name := "bytes", desc := "()J" } : Jvm.MethodName) prog_38_method_4_code (1 : Nat) (Option.some Jvm.ClassFile.FieldType.long)).before args0 about1 = true := code_word (m := ⟨3, 1⟩) (meth := k3m1) (c := k3c1) (by decide +kernel) rfl rfl rfl (by decide +kernel)
set_option maxRecDepth 65536 in
theorem w_c7 : (Jvm.Cond.code ({ cls := "com/example/castd/castd/Room", name := "maxBytes", desc := "()J" } : Jvm.MethodName) prog_38_method_5_code (1 : Nat) (Option.some Jvm.ClassFile.FieldType.long)).before args0 about1 = true := code_word (m := ⟨3, 2⟩) (meth := k3m2) (c := k3c2) (by decide +kernel) rfl rfl rfl (by decide +kernel)
def codes1 : List Jvm.Cond := [Jvm.Cond.code x code maxLocals ret, Jvm.Cond.code ({ cls := "com/example/castd/castd/Room", name := "<init>", desc := "(J)V" } : Jvm.MethodName) prog_38_method_1_code (3 : Nat) (Option.none : Option Jvm.ClassFile.FieldType), Jvm.Cond.code ({ cls := "java/lang/Object", name := "<init>", desc := "()V" } : Jvm.MethodName) object_method_1_code (1 : Nat) (Option.none : Option Jvm.ClassFile.FieldType), Jvm.Cond.code ({ cls := "com/example/castd/castd/Room", name := "add", desc := "(J)V" } : Jvm.MethodName) prog_38_method_8_code (3 : Nat) (Option.none : Option Jvm.ClassFile.FieldType), Jvm.Cond.code ({ cls := "com/example/castd/castd/Room", name := "fits", desc := "(J)Z" } : Jvm.MethodName) prog_38_method_6_code (3 : Nat) (Option.some Jvm.ClassFile.FieldType.boolean), Jvm.Cond.code ({ cls := "com/example/castd/castd/RoomFitsPinLaw", name := "expectedFits", desc := "(JJJ)Z" } : Jvm.MethodName) method_3_code (6 : Nat) (Option.some Jvm.ClassFile.FieldType.boolean), Jvm.Cond.code ({ cls := "com/example/castd/castd/Room", name := "bytes", desc := "()J" } : Jvm.MethodName) prog_38_method_4_code (1 : Nat) (Option.some Jvm.ClassFile.FieldType.long), Jvm.Cond.code ({ cls := "com/example/castd/castd/Room", name := "maxBytes", desc := "()J" } : Jvm.MethodName) prog_38_method_5_code (1 : Nat) (Option.some Jvm.ClassFile.FieldType.long)]
set_option maxRecDepth 65536 in
theorem codes_eq : words1.filter isCode = codes1 := rfl
theorem w_codes : ∀ c ∈ words1.filter isCode, c.before args0 about1 = true := by
  rw [codes_eq]
  intro c hc
  simp only [codes1, List.mem_cons, List.not_mem_nil, or_false] at hc
  rcases hc with rfl | rfl | rfl | rfl | rfl | rfl | rfl | rfl
  · exact w_c0
  · exact w_c1
  · exact w_c2
  · exact w_c3
  · exact w_c4
  · exact w_c5
  · exact w_c6
  · exact w_c7
set_option maxRecDepth 65536 in
theorem w_t1 : (words1.take 24).all (fun c => isCode c || c.before args0 about1) = true := by decide +kernel
set_option maxRecDepth 65536 in
theorem w_t2 : (words1.drop 24).all (fun c => isCode c || c.before args0 about1) = true := by decide +kernel
theorem w_tables : (allAtoms (Jvm.Cond.code x code maxLocals ret :: tables_1)).before args0 about1 = true := by
  rw [allAtoms_all]
  show words1.all (fun c => c.before args0 about1) = true
  refine all_split ?_ w_codes
  rw [← List.take_append_drop 24 words1, List.all_append, w_t1, w_t2]
  rfl
set_option maxRecDepth 65536 in
theorem w_case : (Jvm.Cond.and given_1 narrow_1).before args0 about1 = true := by decide +kernel
theorem w_applies : (headSpec (Jvm.Cond.code x code maxLocals ret :: tables_1) room_1).applies x e0.platform about1 = true :=
  (Spec.applies_iff w_frames).mpr ⟨w_running, w_runnable, w_alone, w_named, w_hears, w_ripe, w_room, w_tables⟩
theorem atStart : AtStart classFile x code maxLocals ret World_1 tables_1 room_1 Calls_1 rest_1 Pre_1 launch0 p0 e0 about1 theMethod args0 below0 :=
  ⟨lists_1, trivial, launch0.admits_env _ _ _, launch0.least_env, fairChoices_fair.cas, fairChoices_fair.clock, w_frames, w_args, w_heap, w_applies, trivial, trivial, w_case⟩
end start1
theorem witness_1 : WitnessClaimed_1 := ⟨start1.p0, start1.e0, start1.about1, start1.theMethod, start1.args0, start1.below0, start1.atStart⟩
end Jvm.Pilot.@@N@@
