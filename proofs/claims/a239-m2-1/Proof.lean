import JvmDerived
import JvmDerived.Pilot.@@N@@Statement
import JvmDerived.Pilot.@@N@@Code
set_option linter.unusedVariables false
set_option linter.unusedSimpArgs false
namespace Jvm.RoadKit
open Sem ClassFile Op Lib Jvm.Stand Jvm.Free Jvm.LawKit
section New
variable {p : Program} {l : Launch} {e : Env} {R : Room} {s : State} {m : MethodId} {args : Array Value} {below : List Frame} {meth : Method} {c : Code} {T : State} {locs : List Loc} {cells slots : Nat}
theorem retI (X : Stand p l e R s m args below meth c T locs cells slots) (hx : p.tables.exec = Jvm.exec) {pc : Nat} {Ls : Array Slot} {z : Int32} {rest : List Value} (hret : meth.sig.returnType = some .int) (hd : decode c.code pc = .ok (.ireturn, 1)) {fs : List Frame}
    (hl : ∀ (f : JFrame) (acts : List Action), f.method = m → f.locked = none → f.entered = [] → (doReturn e (T.setTop f) acts (some (.int z))).1 = T.setFrames fs) : Steps p.tables e below (T.setTop (mkF m pc Ls (.int z :: rest))) (T.setFrames fs) := by
  have hm' : T.vm.method? m = some meth := X.method'
  have hn : narrow .int (.int z) = .int z := rfl
  show Steps p.tables e below (T.setTop { method := m, pc := pc, locals := Ls, stack := _ :: rest, locked := none }) _
  jvm_step X.here [X.here.top, hx, hd, hm', hret, hn]
  first | (intro acts; rw [hl _ acts rfl rfl rfl]) | rw [hl _ _ rfl rfl rfl]
  exact Steps.refl _
end New
end Jvm.RoadKit
namespace Jvm.Pilot.@@N@@
open Jvm Jvm.ClassFile Sem Op Lib Jvm.Free Jvm.Stand Jvm.LawKit Jvm.RoadKit Bundle Jvm.Pilot.@@N@@.Jvm.D
theorem own_pn0 : plainName "java/lang/StringLatin1" = true := by first | (simp [plainName, overriddenIn]; done) | decide +kernel
theorem own_pn16 : plainName "java/lang/String" = true := by first | (simp [plainName, overriddenIn]; done) | decide +kernel
theorem own_pn26 : plainName "java/lang/Record" = true := by first | (simp [plainName, overriddenIn]; done) | decide +kernel
theorem own_pn30 : plainName "java/util/Objects" = true := by first | (simp [plainName, overriddenIn]; done) | decide +kernel
theorem own_pd35 : parseMethodDescriptor "(C)Z" = some ⟨[.char], some .boolean⟩ := by decide +kernel
theorem own_pd36 : parseMethodDescriptor "(C)[B" = some ⟨[.char], some (.array .byte)⟩ := by decide +kernel
theorem own_staKeep {Z : State} {h h' : Heap} {C n d : String} {v : Value} (F : Sta Z h C n d v) (K : Keep h h' []) : Sta Z h' C n d v := by
  obtain ⟨cf, i, k, f, st, cell, h1, h2, h3, h4, h5, r⟩ := F
  exact ⟨cf, i, k, f, st, cell, h1, h2, h3, h4, K.2.1 _ _ h5 (fun q => nomatch q), r⟩
theorem own_pd38 : parseMethodDescriptor "([BB)V" = some ⟨[(.array .byte), .byte], none⟩ := by decide +kernel
theorem own_staKeepE {Z : State} {h h' : Heap} {C n d : String} {v : Value} {ws : List Addr} (F : Sta Z h C n d v) (K : Keep h h' ws) (q : ∀ x ∈ ws, ∃ D, Exa Z h x D) : Sta Z h' C n d v := by
  obtain ⟨cf, i, k, f, st, cell, h1, h2, h3, h4, h5, h6, r⟩ := F
  refine ⟨cf, i, k, f, st, cell, h1, h2, h3, h4, K.2.1 _ _ h5 (fun y => ?_), h6, r⟩
  obtain ⟨D, c2, k2, e1, e2, e3, e4, e5⟩ := q _ y
  cases h5.symm.trans e1
  rw [h6] at e4; cases e4
theorem own_pd52 : parseMethodDescriptor "()V" = some ⟨[], none⟩ := by decide +kernel
theorem own_wS {a0 : Array Value} {Z : State} (hw : ∀ d ∈ tables_1, d.before a0 Z = true) : ∀ a ∈ Bundle.stringAtoms, a.before a0 Z = true := by
  intro d hd
  simp only [Bundle.stringAtoms, List.mem_cons, List.not_mem_nil, or_false] at hd
  rcases hd with rfl | rfl | rfl | rfl | rfl | rfl | rfl
  · exact hw _ (List.mem_of_getElem? (i := 2) rfl)
  · exact hw _ (List.mem_of_getElem? (i := 10) rfl)
  · exact hw _ (List.mem_of_getElem? (i := 14) rfl)
  · exact hw _ (List.mem_of_getElem? (i := 23) rfl)
  · exact hw _ (List.mem_of_getElem? (i := 25) rfl)
  · exact hw _ (List.mem_of_getElem? (i := 39) rfl)
  · exact hw _ (List.mem_of_getElem? (i := 40) rfl)
theorem own_pd54 : parseMethodDescriptor "(Ljava/lang/Object;Ljava/lang/String;)Ljava/lang/Object;" = some ⟨[(.object "java/lang/Object"), (.object "java/lang/String")], some (.object "java/lang/Object")⟩ := by decide +kernel
theorem own_pn55 : plainName "com/example/edgbaston/edgbaston/source/Location" = true := by first | (simp [plainName, overriddenIn]; done) | decide +kernel
theorem own_pn91 : plainName "com/example/edgbaston/edgbaston/source/LocationIsBeforePinLaw" = true := by first | (simp [plainName, overriddenIn]; done) | decide +kernel
theorem own_pd102 : parseMethodDescriptor "(C)Ljava/lang/String;" = some ⟨[.char], some (.object "java/lang/String")⟩ := by decide +kernel
theorem own_pd103 : parseMethodDescriptor "(Ljava/lang/String;II)V" = some ⟨[(.object "java/lang/String"), .int, .int], none⟩ := by decide +kernel
theorem own_pd104 : parseMethodDescriptor "(Lcom/example/edgbaston/edgbaston/source/Location;)Z" = some ⟨[(.object "com/example/edgbaston/edgbaston/source/Location")], some .boolean⟩ := by decide +kernel
theorem own_pd105 : parseMethodDescriptor "(II)J" = some ⟨[.int, .int], some .long⟩ := by decide +kernel
theorem own_lt255 (y : Int32) : ¬ (255 : Int32) < ((y &&& (255 : Int32)).toUInt32.toUInt16.toUInt32.toInt32) := by
  have h1 := c_mask y 255 8 (by decide) (by decide)
  have h2 := c_i2c (y &&& 255)
  rw [Int32.lt_iff_toInt_lt, show (255 : Int32).toInt = 255 from by decide]
  omega
-- body 2
theorem own_d2_0 : decode jdk_43_method_3_code 0 = .ok (.iload_n 0, 1) := by decide +kernel
theorem own_d2_1 : decode jdk_43_method_3_code 1 = .ok (.sipush 255, 3) := by decide +kernel
theorem own_d2_4 : decode jdk_43_method_3_code 4 = .ok (.if_icmp .gt 7, 3) := by decide +kernel
theorem own_d2_7 : decode jdk_43_method_3_code 7 = .ok (.iconst 1, 1) := by decide +kernel
theorem own_d2_8 : decode jdk_43_method_3_code 8 = .ok (.goto 4, 3) := by decide +kernel
theorem own_d2_11 : decode jdk_43_method_3_code 11 = .ok (.iconst 0, 1) := by decide +kernel
theorem own_d2_12 : decode jdk_43_method_3_code 12 = .ok (.ireturn, 1) := by decide +kernel
theorem own_ef2 (m : MethodId) (x0 : Int32) : entryFrame m #[(.int x0)] 1 = mkF m 0 #[.val (.int x0)] [] := by first | (simp [entryFrame, mkF, argsToLocals, Value.category]; done) | rfl
def own_f2 (p1 : Int32) : Int32 := if (255 : Int32) < p1 then (0 : Int32)
    else (1 : Int32)
def own_Q2 (Z : State) (p1 : Int32) (h0 : Heap) (n0 : Nat) (v : Option Value) (h : Heap) (L : List Loc) : Prop := v = some (.int (own_f2 p1)) ∧ Fr n0 L ∧ h = h0
set_option maxRecDepth 65536 in
set_option maxHeartbeats 40000000 in
theorem own_rm2 (l : Launch) (Z : State) (a0 : Array Value) (hw : ∀ d ∈ tables_1, d.before a0 Z = true) (ws : List Jvm.Cond) (p1 : Int32) (h0 : Heap) (n0 : Nat) (Z0 : n0 ≤ h0.size) :
    MetFree l (⟨"java/lang/StringLatin1", "canEncode", "(C)Z"⟩ : MethodName) (head1 (Jvm.Cond.code (⟨"java/lang/StringLatin1", "canEncode", "(C)Z"⟩ : MethodName) jdk_43_method_3_code 1 (some .boolean) :: ws) ({ frames := 0, cells := 0, slots := 0, locals := 0 } : Room)) (fun a U => a = #[(.int p1)] ∧ Z.Warmed39 U.vm ∧ U.heap = h0) (fun _ _ _ _ _ => True) (fun _ U o U' => ∃ v L, o = .returned v ∧ own_Q2 Z p1 h0 n0 v U'.heap L ∧ FrameEnd U o U' L ({ frames := 0, cells := 0, slots := 0, locals := 0 } : Room).cells ({ frames := 0, cells := 0, slots := 0, locals := 0 } : Room).slots) := by
  refine MetFree.of_bodySF (plainFor_of_name own_pn0) hisR ?_
  intro p e s m args below meth c s₁ Bd hml0 hP hK
  obtain ⟨rfl, hZ, hh⟩ := hP
  have hx := Bd.exec
  have hby := Bd.bytes
  have hml : c.maxLocals = 1 := hml0
  have hown : s.vm.findClass "java/lang/StringLatin1" = some m.cls := findClass_of_methodNamed Bd.named
  have hnm := (name_of_methodNamed Bd.named Bd.method).1
  have X0 : Stand p l e ({ frames := 0, cells := 0, slots := 0, locals := 0 } : Room) s m #[(.int p1)] below meth c s₁ [] 0 0 := Stand.of_body Bd
  have hS0 : s.Since s.vm 0 := (State.WarmedH.refl s).since 0
  have hk0 : 0 ≤ h0.size := Nat.zero_le _
  have hlk := Bd.notSynchronized
  have e0 : s₁.heap = h0 := by rw [← hh, Bd.state]; rfl
  have N0 := Fr.nil n0
  have pre0 : ∀ t, Steps p.tables e below (s₁.setTop (mkF m 0 #[.val (.int p1)] [])) t → Steps p.tables e below (s₁.setTop (entryFrame m #[(.int p1)] 1)) t := fun t k => castTop (own_ef2 m p1) k
  have k1 : ∀ t, Steps p.tables e below (s₁.setTop (mkF m 4 #[.val (.int p1)] [(.int (255 : Int32)), (.int p1)])) t → Steps p.tables e below (s₁.setTop (entryFrame m #[(.int p1)] 1)) t := by
    intro t kt
    refine pre0 t ?_
    show Steps p.tables e below (s₁.setTop (mkF m 0 #[.val (.int p1)] [])) _
    refine XS.iloadN X0.here hx rfl (hb hby own_d2_0) rfl ?_
    show Steps p.tables e below (s₁.setTop (mkF m 1 #[.val (.int p1)] [(.int p1)])) _
    refine XS.sipush X0.here hx rfl (hb hby own_d2_1) ?_
    exact kt
  by_cases hc1 : (255 : Int32) < p1
  ·
    obtain ⟨fs, hr, hrun, hended, hW, hsame⟩ := X0.leave (hlocks := hlk) (v := some (.int (0 : Int32))) (fun h => by rw [Bd.returns] at h; cases h)
    refine ⟨_, _, k1 _ ?_, hrun, hended, _, _, rfl, ?_, ⟨_, rfl⟩, hW, hsame.mono (by decide) (by decide)⟩
    · show Steps p.tables e below (s₁.setTop (mkF m 4 #[.val (.int p1)] [(.int (255 : Int32)), (.int p1)])) _
      refine XS.icmpYes X0.here hx rfl (pc0 := 4) (pc' := 11) rfl (hb hby own_d2_4) rfl (tlt hc1).2.2.1 (by decide) (by decide) ?_
      show Steps p.tables e below (s₁.setTop (mkF m 11 #[.val (.int p1)] [])) _
      refine XS.iconst X0.here hx rfl (hb hby own_d2_11) ?_
      show Steps p.tables e below (s₁.setTop (mkF m 12 #[.val (.int p1)] [(.int (0 : Int32))])) _
      exact retN X0 hx (t := .boolean) Bd.returns (by simp) (hb hby own_d2_12) hr
    · show own_Q2 Z p1 h0 n0 _ s₁.heap _
      rw [e0]
      exact ⟨(by rw [own_f2, if_pos hc1]), N0, rfl⟩
  ·
    obtain ⟨fs, hr, hrun, hended, hW, hsame⟩ := X0.leave (hlocks := hlk) (v := some (.int (1 : Int32))) (fun h => by rw [Bd.returns] at h; cases h)
    refine ⟨_, _, k1 _ ?_, hrun, hended, _, _, rfl, ?_, ⟨_, rfl⟩, hW, hsame.mono (by decide) (by decide)⟩
    · show Steps p.tables e below (s₁.setTop (mkF m 4 #[.val (.int p1)] [(.int (255 : Int32)), (.int p1)])) _
      refine XS.icmpNo X0.here hx rfl (hb hby own_d2_4) rfl (flt hc1).2.2.1 ?_
      show Steps p.tables e below (s₁.setTop (mkF m 7 #[.val (.int p1)] [])) _
      refine XS.iconst X0.here hx rfl (hb hby own_d2_7) ?_
      show Steps p.tables e below (s₁.setTop (mkF m 8 #[.val (.int p1)] [(.int (1 : Int32))])) _
      refine XS.goto X0.here hx rfl (pc0 := 8) (pc' := 12) rfl (hb hby own_d2_8) (by decide) (by decide) ?_
      show Steps p.tables e below (s₁.setTop (mkF m 12 #[.val (.int p1)] [(.int (1 : Int32))])) _
      exact retN X0 hx (t := .boolean) Bd.returns (by simp) (hb hby own_d2_12) hr
    · show own_Q2 Z p1 h0 n0 _ s₁.heap _
      rw [e0]
      exact ⟨(by rw [own_f2, if_neg hc1]), N0, rfl⟩
-- body 3
theorem own_d3_0 : decode jdk_43_method_46_code 0 = .ok (.iconst 1, 1) := by decide +kernel
theorem own_d3_1 : decode jdk_43_method_46_code 1 = .ok (.newarray .byte, 2) := by decide +kernel
theorem own_d3_3 : decode jdk_43_method_46_code 3 = .ok (.dup, 1) := by decide +kernel
theorem own_d3_4 : decode jdk_43_method_46_code 4 = .ok (.iconst 0, 1) := by decide +kernel
theorem own_d3_5 : decode jdk_43_method_46_code 5 = .ok (.iload_n 0, 1) := by decide +kernel
theorem own_d3_6 : decode jdk_43_method_46_code 6 = .ok (.i2b, 1) := by decide +kernel
theorem own_d3_7 : decode jdk_43_method_46_code 7 = .ok (.bastore, 1) := by decide +kernel
theorem own_d3_8 : decode jdk_43_method_46_code 8 = .ok (.areturn, 1) := by decide +kernel
theorem own_ef3 (m : MethodId) (x0 : Int32) : entryFrame m #[(.int x0)] 1 = mkF m 0 #[.val (.int x0)] [] := by first | (simp [entryFrame, mkF, argsToLocals, Value.category]; done) | rfl
def own_Q3 (Z : State) (p1 : Int32) (h0 : Heap) (n0 : Nat) (v : Option Value) (h : Heap) (L : List Loc) : Prop := ∃ (r : Addr) (kr : ClassId), v = some (.ref r) ∧ Fr n0 L ∧ Keep h0 h [] ∧ h0.size ≤ r ∧ Arv Z h r kr .byte (1 : Int32) [(.int (nar .byte (p1.toInt8.toInt32)))] (.int (0 : Int32))
set_option maxRecDepth 65536 in
set_option maxHeartbeats 40000000 in
theorem own_rm3 (l : Launch) (Z : State) (a0 : Array Value) (hw : ∀ d ∈ tables_1, d.before a0 Z = true) (ws : List Jvm.Cond) (p1 : Int32) (h0 : Heap) (n0 : Nat) (Z0 : n0 ≤ h0.size) :
    MetFree l (⟨"java/lang/StringLatin1", "toBytes", "(C)[B"⟩ : MethodName) (head1 (Jvm.Cond.code (⟨"java/lang/StringLatin1", "toBytes", "(C)[B"⟩ : MethodName) jdk_43_method_46_code 1 (some (.array .byte)) :: ws) ({ frames := 0, cells := 1, slots := 1, locals := 0 } : Room)) (fun a U => a = #[(.int p1)] ∧ Z.Warmed39 U.vm ∧ U.heap = h0) (fun _ _ _ _ _ => True) (fun _ U o U' => ∃ v L, o = .returned v ∧ own_Q3 Z p1 h0 n0 v U'.heap L ∧ FrameEnd U o U' L ({ frames := 0, cells := 1, slots := 1, locals := 0 } : Room).cells ({ frames := 0, cells := 1, slots := 1, locals := 0 } : Room).slots) := by
  refine MetFree.of_bodySF (plainFor_of_name own_pn0) hisR ?_
  intro p e s m args below meth c s₁ Bd hml0 hP hK
  obtain ⟨rfl, hZ, hh⟩ := hP
  have hx := Bd.exec
  have hby := Bd.bytes
  have hml : c.maxLocals = 1 := hml0
  have hown : s.vm.findClass "java/lang/StringLatin1" = some m.cls := findClass_of_methodNamed Bd.named
  have hnm := (name_of_methodNamed Bd.named Bd.method).1
  have X0 : Stand p l e ({ frames := 0, cells := 1, slots := 1, locals := 0 } : Room) s m #[(.int p1)] below meth c s₁ [] 0 0 := Stand.of_body Bd
  have hS0 : s.Since s.vm 0 := (State.WarmedH.refl s).since 0
  have hk0 : 0 ≤ h0.size := Nat.zero_le _
  have hlk := Bd.notSynchronized
  have e0 : s₁.heap = h0 := by rw [← hh, Bd.state]; rfl
  have N0 := Fr.nil n0
  have pre0 : ∀ t, Steps p.tables e below (s₁.setTop (mkF m 0 #[.val (.int p1)] [])) t → Steps p.tables e below (s₁.setTop (entryFrame m #[(.int p1)] 1)) t := fun t k => castTop (own_ef3 m p1) k
  obtain ⟨T1, h1, k1, X1, e1, E1, A1, st1⟩ := newP X0 hx hZ (hw _ (List.mem_of_getElem? (i := 14) rfl)) e0 (g := (mkF m 1 #[.val (.int p1)] [(.int (1 : Int32))])) rfl (hb hby own_d3_1) rfl (by decide) (cap := 1) (by decide) (by decide) (by decide) (by decide)
  obtain ⟨b1, g1⟩ : ∃ z, z = h0.size := ⟨_, rfl⟩
  rw [← g1] at A1 st1
  have g_b1 : n0 ≤ b1 := Nat.le_trans Z0 (Nat.le_of_eq g1.symm)
  have sz_b1 : h0.size ≤ b1 := Nat.le_of_eq g1.symm
  have Z2 := Nat.le_trans Z0 E1.1
  have K3 : Keep h0 h1 [] := (Keep.refl h0 _).ext E1
  have V_b1 : Arv Z h1 b1 k1 .byte (1 : Int32) [(.int (0 : Int32))] (.int (0 : Int32)) := (Arv.new A1 (by decide)).pad (pad_rep [] (.int (0 : Int32)) 1)
  obtain ⟨cl4, Ar4, qk4, Sz4, Nn4, Hs4, Gf4⟩ := id V_b1
  have hin4 : ¬ ((0 : Int32) < 0 ∨ cl4.slots.size ≤ ((0 : Int32)).toNatClampNeg) := inb_of Sz4 ⟨by decide, by decide⟩
  obtain ⟨T5, h5, X5, e5, W5, st5⟩ := stB X1 hx hZ e1 Ar4 (j := (0 : Int32)) hin4 (g := (mkF m 7 #[.val (.int p1)] [(.int (p1.toInt8.toInt32)), (.int (0 : Int32)), (.ref b1), (.ref b1)])) rfl rfl (hb hby own_d3_7)
  have V_b1_5 : Arv Z h5 b1 k1 .byte (1 : Int32) [(.int (nar .byte (p1.toInt8.toInt32)))] (.int (0 : Int32)) := Arv.set Ar4 qk4 Sz4 Nn4 Hs4 Gf4 (fits_nar_byte _) W5 0 rfl (Nat.le_of_ble_eq_true rfl)
  have N6 := Fr.snoc X5 N0 g_b1
  have Z7 := Nat.le_trans Z2 (Keep.of_wr W5).1
  have K8 : Keep h0 h5 [] := K3.wr W5 (Or.inr sz_b1)
  obtain ⟨fs, hr, hrun, hended, hW, hsame⟩ := X5.leave (hlocks := hlk) (v := some (.ref b1)) (fun h => by rw [Bd.returns] at h; cases h)
  refine ⟨_, _, pre0 _ ?_, hrun, hended, _, _, rfl, ?_, ⟨_, rfl⟩, hW, hsame.mono (by decide) (by decide)⟩
  · show Steps p.tables e below (s₁.setTop (mkF m 0 #[.val (.int p1)] [])) _
    refine XS.iconst X0.here hx rfl (hb hby own_d3_0) ?_
    show Steps p.tables e below (s₁.setTop (mkF m 1 #[.val (.int p1)] [(.int (1 : Int32))])) _
    refine st1 _ ?_
    show Steps p.tables e below (T1.setTop (mkF m 3 #[.val (.int p1)] [(.ref b1)])) _
    refine XS.dup X1.here hx rfl (hb hby own_d3_3) rfl rfl ?_
    show Steps p.tables e below (T1.setTop (mkF m 4 #[.val (.int p1)] [(.ref b1), (.ref b1)])) _
    refine XS.iconst X1.here hx rfl (hb hby own_d3_4) ?_
    show Steps p.tables e below (T1.setTop (mkF m 5 #[.val (.int p1)] [(.int (0 : Int32)), (.ref b1), (.ref b1)])) _
    refine XS.iloadN X1.here hx rfl (hb hby own_d3_5) rfl ?_
    show Steps p.tables e below (T1.setTop (mkF m 6 #[.val (.int p1)] [(.int p1), (.int (0 : Int32)), (.ref b1), (.ref b1)])) _
    refine XS.i2b X1.here hx rfl (hb hby own_d3_6) rfl ?_
    show Steps p.tables e below (T1.setTop (mkF m 7 #[.val (.int p1)] [(.int (p1.toInt8.toInt32)), (.int (0 : Int32)), (.ref b1), (.ref b1)])) _
    refine st5 _ ?_
    show Steps p.tables e below (T5.setTop (mkF m 8 #[.val (.int p1)] [(.ref b1)])) _
    jvm_step X5.here [X5.here.top, hx, (hb hby own_d3_8), X5.method', Bd.returns, Value.isRef, FieldType.isReference]
    first | (intro acts; rw [hr _ acts rfl rfl rfl]) | rw [hr _ _ rfl rfl rfl]
    exact Steps.refl _
  · show own_Q3 Z p1 h0 n0 _ T5.heap _
    rw [e5]
    exact ⟨b1, k1, rfl, N6, K8, sz_b1, V_b1_5⟩
-- body 4
theorem own_d4_0 : decode jdk_42_method_151_code 0 = .ok (.aload_n 0, 1) := by decide +kernel
theorem own_d4_1 : decode jdk_42_method_151_code 1 = .ok (.invokespecial 1, 3) := by decide +kernel
theorem own_d4_4 : decode jdk_42_method_151_code 4 = .ok (.aload_n 0, 1) := by decide +kernel
theorem own_d4_5 : decode jdk_42_method_151_code 5 = .ok (.aload_n 1, 1) := by decide +kernel
theorem own_d4_6 : decode jdk_42_method_151_code 6 = .ok (.putfield 9, 3) := by decide +kernel
theorem own_d4_9 : decode jdk_42_method_151_code 9 = .ok (.aload_n 0, 1) := by decide +kernel
theorem own_d4_10 : decode jdk_42_method_151_code 10 = .ok (.iload_n 2, 1) := by decide +kernel
theorem own_d4_11 : decode jdk_42_method_151_code 11 = .ok (.putfield 15, 3) := by decide +kernel
theorem own_d4_14 : decode jdk_42_method_151_code 14 = .ok (.return_, 1) := by decide +kernel
theorem own_ef4 (m : MethodId) (x0 : Addr) (x1 : Addr) (x2 : Int32) : entryFrame m #[(.ref x0), (.ref x1), (.int x2)] 3 = mkF m 0 #[.val (.ref x0), .val (.ref x1), .val (.int x2)] [] := by first | (simp [entryFrame, mkF, argsToLocals, Value.category]; done) | rfl
def own_Q4 (Z : State) (a1 : Addr) (a2 : Addr) (p3 : Int32) (u_value_a1 : Value) (w_coder_a1 : Int32) (h0 : Heap) (n0 : Nat) (v : Option Value) (h : Heap) (L : List Loc) : Prop := v = none ∧ Fr n0 L ∧ Keep h0 h [a1] ∧ Exa Z h a1 "java/lang/String" ∧ Fld Z h a1 "java/lang/String" "value" "[B" (.ref a2) ∧ Fld Z h a1 "java/lang/String" "coder" "B" (.int (nar .byte p3))
set_option maxRecDepth 65536 in
set_option maxHeartbeats 40000000 in
theorem own_rm4 (l : Launch) (Z : State) (a0 : Array Value) (hw : ∀ d ∈ tables_1, d.before a0 Z = true) (ws : List Jvm.Cond) (a1 : Addr) (a2 : Addr) (p3 : Int32) (u_value_a1 : Value) (w_coder_a1 : Int32) (h0 : Heap) (n0 : Nat) (Z0 : n0 ≤ h0.size) (E_a1 : Exa Z h0 a1 "java/lang/String") (F_value_a1 : Fld Z h0 a1 "java/lang/String" "value" "[B" u_value_a1) (g_a1 : n0 ≤ a1) (F_coder_a1 : Fld Z h0 a1 "java/lang/String" "coder" "B" (.int w_coder_a1)) :
    MetFree l (⟨"java/lang/String", "<init>", "([BB)V"⟩ : MethodName) (head1 (Jvm.Cond.code (⟨"java/lang/String", "<init>", "([BB)V"⟩ : MethodName) jdk_42_method_151_code 3 none :: ws) ({ frames := 1, cells := 0, slots := 0, locals := 12 } : Room)) (fun a U => a = #[(.ref a1), (.ref a2), (.int p3)] ∧ Z.Warmed39 U.vm ∧ U.heap = h0) (fun _ _ _ _ _ => True) (fun _ U o U' => ∃ v L, o = .returned v ∧ own_Q4 Z a1 a2 p3 u_value_a1 w_coder_a1 h0 n0 v U'.heap L ∧ FrameEnd U o U' L ({ frames := 1, cells := 0, slots := 0, locals := 12 } : Room).cells ({ frames := 1, cells := 0, slots := 0, locals := 12 } : Room).slots) := by
  refine MetFree.of_bodySF (plainFor_of_name own_pn16) hisR ?_
  intro p e s m args below meth c s₁ Bd hml0 hP hK
  obtain ⟨rfl, hZ, hh⟩ := hP
  have hx := Bd.exec
  have hby := Bd.bytes
  have hml : c.maxLocals = 3 := hml0
  have hown : s.vm.findClass "java/lang/String" = some m.cls := findClass_of_methodNamed Bd.named
  have hnm := (name_of_methodNamed Bd.named Bd.method).1
  have X0 : Stand p l e ({ frames := 1, cells := 0, slots := 0, locals := 12 } : Room) s m #[(.ref a1), (.ref a2), (.int p3)] below meth c s₁ [] 0 0 := Stand.of_body Bd
  have hS0 : s.Since s.vm 0 := (State.WarmedH.refl s).since 0
  have hk0 : 0 ≤ h0.size := Nat.zero_le _
  have hlk := Bd.notSynchronized
  have e0 : s₁.heap = h0 := by rw [← hh, Bd.state]; rfl
  have N0 := Fr.nil n0
  have pre0 : ∀ t, Steps p.tables e below (s₁.setTop (mkF m 0 #[.val (.ref a1), .val (.ref a2), .val (.int p3)] [])) t → Steps p.tables e below (s₁.setTop (entryFrame m #[(.ref a1), (.ref a2), (.int p3)] 3)) t := fun t k => castTop (own_ef4 m a1 a2 p3) k
  obtain ⟨T1, X1, e1, st1⟩ := initO X0 hx hZ hown (hw _ (List.mem_of_getElem? (i := 19) rfl)) (hw _ (List.mem_of_getElem? (i := 20) rfl)) (hw _ (List.mem_of_getElem? (i := 21) rfl)) e0 (g := (mkF m 1 #[.val (.ref a1), .val (.ref a2), .val (.int p3)] [(.ref a1)])) rfl (by rw [hml]; rfl) rfl (hb hby own_d4_1) (by decide) (W := 0) (by show 2 * 0 + _ ≤ _; exact Nat.le_of_eq rfl) (by decide)
  obtain ⟨T2, h2, X2, e2, W2, st2⟩ := putF X1 hx hZ hown (host := "") (Or.inl (hw _ (List.mem_of_getElem? (i := 22) rfl))) Via.refl e1 F_value_a1 E_a1 (Or.inr ⟨(hw _ (List.mem_of_getElem? (i := 23) rfl)), rfl, hnm⟩) (hw _ (List.mem_of_getElem? (i := 10) rfl)) (ty := (.array .byte)) (by decide) rfl rfl (g := (mkF m 6 #[.val (.ref a1), .val (.ref a2), .val (.int p3)] [(.ref a2), (.ref a1)])) rfl rfl (hb hby own_d4_6)
  have N3 := Fr.snoc X2 N0 g_a1
  have Z4 := Nat.le_trans Z0 (Keep.of_wr W2).1
  have K5 : Keep h0 h2 [a1] := (Keep.refl h0 _).wr W2 (Or.inl (List.mem_of_getElem? (i := 0) rfl))
  have f6 := E_a1.wr W2
  have f7 := F_value_a1.same W2
  have f8 := F_coder_a1.other W2 (Or.inr (slot_ne (Or.inr (hw _ (List.mem_of_getElem? (i := 25) rfl))) (Or.inr (hw _ (List.mem_of_getElem? (i := 23) rfl))) (by decide) (t := .byte) (t' := (.array .byte)) (by decide) (by decide)))
  obtain ⟨T9, h9, X9, e9, W9, st9⟩ := putFN X2 hx hZ hown (hw _ (List.mem_of_getElem? (i := 24) rfl)) Via.refl e2 f8 f6 (Or.inr ⟨(hw _ (List.mem_of_getElem? (i := 25) rfl)), rfl, hnm⟩) (hw _ (List.mem_of_getElem? (i := 10) rfl)) (ty := .byte) (v' := .int (nar .byte p3)) (by decide) rfl (fits_nar_byte _) (g := (mkF m 11 #[.val (.ref a1), .val (.ref a2), .val (.int p3)] [(.int p3), (.ref a1)])) rfl rfl (hb hby own_d4_11)
  have N10 := Fr.snoc X9 N3 g_a1
  have Z11 := Nat.le_trans Z4 (Keep.of_wr W9).1
  have K12 : Keep h0 h9 [a1] := K5.wr W9 (Or.inl (List.mem_of_getElem? (i := 0) rfl))
  have f13 := f6.wr W9
  have f14 := f7.other W9 (Or.inr (slot_ne (Or.inr (hw _ (List.mem_of_getElem? (i := 23) rfl))) (Or.inr (hw _ (List.mem_of_getElem? (i := 25) rfl))) (by decide) (t := (.array .byte)) (t' := .byte) (by decide) (by decide)))
  have f15 := f8.same W9
  obtain ⟨fs, hr, hrun, hended, hW, hsame⟩ := X9.leave (hlocks := hlk) (v := none) (fun _ => rfl)
  refine ⟨_, _, pre0 _ ?_, hrun, hended, _, _, rfl, ?_, ⟨_, rfl⟩, hW, hsame.mono (by decide) (by decide)⟩
  · show Steps p.tables e below (s₁.setTop (mkF m 0 #[.val (.ref a1), .val (.ref a2), .val (.int p3)] [])) _
    refine XS.aloadN X0.here hx rfl (hb hby own_d4_0) rfl rfl ?_
    show Steps p.tables e below (s₁.setTop (mkF m 1 #[.val (.ref a1), .val (.ref a2), .val (.int p3)] [(.ref a1)])) _
    refine st1 _ ?_
    show Steps p.tables e below (T1.setTop (mkF m 4 #[.val (.ref a1), .val (.ref a2), .val (.int p3)] [])) _
    refine XS.aloadN X1.here hx rfl (hb hby own_d4_4) rfl rfl ?_
    show Steps p.tables e below (T1.setTop (mkF m 5 #[.val (.ref a1), .val (.ref a2), .val (.int p3)] [(.ref a1)])) _
    refine XS.aloadN X1.here hx rfl (hb hby own_d4_5) rfl rfl ?_
    show Steps p.tables e below (T1.setTop (mkF m 6 #[.val (.ref a1), .val (.ref a2), .val (.int p3)] [(.ref a2), (.ref a1)])) _
    refine st2 _ ?_
    show Steps p.tables e below (T2.setTop (mkF m 9 #[.val (.ref a1), .val (.ref a2), .val (.int p3)] [])) _
    refine XS.aloadN X2.here hx rfl (hb hby own_d4_9) rfl rfl ?_
    show Steps p.tables e below (T2.setTop (mkF m 10 #[.val (.ref a1), .val (.ref a2), .val (.int p3)] [(.ref a1)])) _
    refine XS.iloadN X2.here hx rfl (hb hby own_d4_10) rfl ?_
    show Steps p.tables e below (T2.setTop (mkF m 11 #[.val (.ref a1), .val (.ref a2), .val (.int p3)] [(.int p3), (.ref a1)])) _
    refine st9 _ ?_
    show Steps p.tables e below (T9.setTop (mkF m 14 #[.val (.ref a1), .val (.ref a2), .val (.int p3)] [])) _
    exact X9.returnOut hx Bd.returns (hb hby own_d4_14) hr
  · show own_Q4 Z a1 a2 p3 u_value_a1 w_coder_a1 h0 n0 _ T9.heap _
    rw [e9]
    exact ⟨rfl, N10, K12, f13, f14, f15⟩
-- body 7
theorem own_d7_0 : decode jdk_30_method_1_code 0 = .ok (.aload_n 0, 1) := by decide +kernel
theorem own_d7_1 : decode jdk_30_method_1_code 1 = .ok (.invokespecial 1, 3) := by decide +kernel
theorem own_d7_4 : decode jdk_30_method_1_code 4 = .ok (.return_, 1) := by decide +kernel
theorem own_ef7 (m : MethodId) (x0 : Addr) : entryFrame m #[(.ref x0)] 1 = mkF m 0 #[.val (.ref x0)] [] := by first | (simp [entryFrame, mkF, argsToLocals, Value.category]; done) | rfl
def own_Q7 (Z : State) (a1 : Addr) (h0 : Heap) (n0 : Nat) (v : Option Value) (h : Heap) (L : List Loc) : Prop := v = none ∧ Fr n0 L ∧ h = h0
set_option maxRecDepth 65536 in
set_option maxHeartbeats 40000000 in
theorem own_rm7 (l : Launch) (Z : State) (a0 : Array Value) (hw : ∀ d ∈ tables_1, d.before a0 Z = true) (ws : List Jvm.Cond) (a1 : Addr) (h0 : Heap) (n0 : Nat) (Z0 : n0 ≤ h0.size) :
    MetFree l (⟨"java/lang/Record", "<init>", "()V"⟩ : MethodName) (head1 (Jvm.Cond.code (⟨"java/lang/Record", "<init>", "()V"⟩ : MethodName) jdk_30_method_1_code 1 none :: ws) ({ frames := 1, cells := 0, slots := 0, locals := 12 } : Room)) (fun a U => a = #[(.ref a1)] ∧ Z.Warmed39 U.vm ∧ U.heap = h0) (fun _ _ _ _ _ => True) (fun _ U o U' => ∃ v L, o = .returned v ∧ own_Q7 Z a1 h0 n0 v U'.heap L ∧ FrameEnd U o U' L ({ frames := 1, cells := 0, slots := 0, locals := 12 } : Room).cells ({ frames := 1, cells := 0, slots := 0, locals := 12 } : Room).slots) := by
  refine MetFree.of_bodySF (plainFor_of_name own_pn26) hisR ?_
  intro p e s m args below meth c s₁ Bd hml0 hP hK
  obtain ⟨rfl, hZ, hh⟩ := hP
  have hx := Bd.exec
  have hby := Bd.bytes
  have hml : c.maxLocals = 1 := hml0
  have hown : s.vm.findClass "java/lang/Record" = some m.cls := findClass_of_methodNamed Bd.named
  have hnm := (name_of_methodNamed Bd.named Bd.method).1
  have X0 : Stand p l e ({ frames := 1, cells := 0, slots := 0, locals := 12 } : Room) s m #[(.ref a1)] below meth c s₁ [] 0 0 := Stand.of_body Bd
  have hS0 : s.Since s.vm 0 := (State.WarmedH.refl s).since 0
  have hk0 : 0 ≤ h0.size := Nat.zero_le _
  have hlk := Bd.notSynchronized
  have e0 : s₁.heap = h0 := by rw [← hh, Bd.state]; rfl
  have N0 := Fr.nil n0
  have pre0 : ∀ t, Steps p.tables e below (s₁.setTop (mkF m 0 #[.val (.ref a1)] [])) t → Steps p.tables e below (s₁.setTop (entryFrame m #[(.ref a1)] 1)) t := fun t k => castTop (own_ef7 m a1) k
  obtain ⟨T1, X1, e1, st1⟩ := initO X0 hx hZ hown (hw _ (List.mem_of_getElem? (i := 37) rfl)) (hw _ (List.mem_of_getElem? (i := 20) rfl)) (hw _ (List.mem_of_getElem? (i := 21) rfl)) e0 (g := (mkF m 1 #[.val (.ref a1)] [(.ref a1)])) rfl (by rw [hml]; rfl) rfl (hb hby own_d7_1) (by decide) (W := 0) (by show 2 * 0 + _ ≤ _; exact Nat.le_of_eq rfl) (by decide)
  obtain ⟨fs, hr, hrun, hended, hW, hsame⟩ := X1.leave (hlocks := hlk) (v := none) (fun _ => rfl)
  refine ⟨_, _, pre0 _ ?_, hrun, hended, _, _, rfl, ?_, ⟨_, rfl⟩, hW, hsame.mono (by decide) (by decide)⟩
  · show Steps p.tables e below (s₁.setTop (mkF m 0 #[.val (.ref a1)] [])) _
    refine XS.aloadN X0.here hx rfl (hb hby own_d7_0) rfl rfl ?_
    show Steps p.tables e below (s₁.setTop (mkF m 1 #[.val (.ref a1)] [(.ref a1)])) _
    refine st1 _ ?_
    show Steps p.tables e below (T1.setTop (mkF m 4 #[.val (.ref a1)] [])) _
    exact X1.returnOut hx Bd.returns (hb hby own_d7_4) hr
  · show own_Q7 Z a1 h0 n0 _ T1.heap _
    rw [e1]
    exact ⟨rfl, N0, rfl⟩
-- body 8
theorem own_d8_0 : decode jdk_31_method_11_code 0 = .ok (.aload_n 0, 1) := by decide +kernel
theorem own_d8_1 : decode jdk_31_method_11_code 1 = .ok (.ifnonnull 12, 3) := by decide +kernel
theorem own_d8_13 : decode jdk_31_method_11_code 13 = .ok (.aload_n 0, 1) := by decide +kernel
theorem own_d8_14 : decode jdk_31_method_11_code 14 = .ok (.areturn, 1) := by decide +kernel
theorem own_ef8 (m : MethodId) (x0 : Addr) (x1 : Addr) : entryFrame m #[(.ref x0), (.ref x1)] 2 = mkF m 0 #[.val (.ref x0), .val (.ref x1)] [] := by first | (simp [entryFrame, mkF, argsToLocals, Value.category]; done) | rfl
def own_f8 (a1 : Addr) : Addr := a1
def own_Q8 (Z : State) (a1 : Addr) (a2 : Addr) (h0 : Heap) (n0 : Nat) (v : Option Value) (h : Heap) (L : List Loc) : Prop := v = some (.ref (own_f8 a1)) ∧ Fr n0 L ∧ h = h0
set_option maxRecDepth 65536 in
set_option maxHeartbeats 40000000 in
theorem own_rm8 (l : Launch) (Z : State) (a0 : Array Value) (hw : ∀ d ∈ tables_1, d.before a0 Z = true) (ws : List Jvm.Cond) (a1 : Addr) (a2 : Addr) (h0 : Heap) (n0 : Nat) (Z0 : n0 ≤ h0.size) :
    MetFree l (⟨"java/util/Objects", "requireNonNull", "(Ljava/lang/Object;Ljava/lang/String;)Ljava/lang/Object;"⟩ : MethodName) (head1 (Jvm.Cond.code (⟨"java/util/Objects", "requireNonNull", "(Ljava/lang/Object;Ljava/lang/String;)Ljava/lang/Object;"⟩ : MethodName) jdk_31_method_11_code 2 (some (.object "java/lang/Object")) :: ws) ({ frames := 0, cells := 0, slots := 0, locals := 0 } : Room)) (fun a U => a = #[(.ref a1), (.ref a2)] ∧ Z.Warmed39 U.vm ∧ U.heap = h0) (fun _ _ _ _ _ => True) (fun _ U o U' => ∃ v L, o = .returned v ∧ own_Q8 Z a1 a2 h0 n0 v U'.heap L ∧ FrameEnd U o U' L ({ frames := 0, cells := 0, slots := 0, locals := 0 } : Room).cells ({ frames := 0, cells := 0, slots := 0, locals := 0 } : Room).slots) := by
  refine MetFree.of_bodySF (plainFor_of_name own_pn30) hisR ?_
  intro p e s m args below meth c s₁ Bd hml0 hP hK
  obtain ⟨rfl, hZ, hh⟩ := hP
  have hx := Bd.exec
  have hby := Bd.bytes
  have hml : c.maxLocals = 2 := hml0
  have hown : s.vm.findClass "java/util/Objects" = some m.cls := findClass_of_methodNamed Bd.named
  have hnm := (name_of_methodNamed Bd.named Bd.method).1
  have X0 : Stand p l e ({ frames := 0, cells := 0, slots := 0, locals := 0 } : Room) s m #[(.ref a1), (.ref a2)] below meth c s₁ [] 0 0 := Stand.of_body Bd
  have hS0 : s.Since s.vm 0 := (State.WarmedH.refl s).since 0
  have hk0 : 0 ≤ h0.size := Nat.zero_le _
  have hlk := Bd.notSynchronized
  have e0 : s₁.heap = h0 := by rw [← hh, Bd.state]; rfl
  have N0 := Fr.nil n0
  have pre0 : ∀ t, Steps p.tables e below (s₁.setTop (mkF m 0 #[.val (.ref a1), .val (.ref a2)] [])) t → Steps p.tables e below (s₁.setTop (entryFrame m #[(.ref a1), (.ref a2)] 2)) t := fun t k => castTop (own_ef8 m a1 a2) k
  obtain ⟨fs, hr, hrun, hended, hW, hsame⟩ := X0.leave (hlocks := hlk) (v := some (.ref a1)) (fun h => by rw [Bd.returns] at h; cases h)
  refine ⟨_, _, pre0 _ ?_, hrun, hended, _, _, rfl, ?_, ⟨_, rfl⟩, hW, hsame.mono (by decide) (by decide)⟩
  · show Steps p.tables e below (s₁.setTop (mkF m 0 #[.val (.ref a1), .val (.ref a2)] [])) _
    refine XS.aloadN X0.here hx rfl (hb hby own_d8_0) rfl rfl ?_
    show Steps p.tables e below (s₁.setTop (mkF m 1 #[.val (.ref a1), .val (.ref a2)] [(.ref a1)])) _
    refine XS.ifnonnullYes X0.here hx rfl (pc0 := 1) (pc' := 13) rfl (hb hby own_d8_1) rfl (by decide) (by decide) ?_
    show Steps p.tables e below (s₁.setTop (mkF m 13 #[.val (.ref a1), .val (.ref a2)] [])) _
    refine XS.aloadN X0.here hx rfl (hb hby own_d8_13) rfl rfl ?_
    show Steps p.tables e below (s₁.setTop (mkF m 14 #[.val (.ref a1), .val (.ref a2)] [(.ref a1)])) _
    jvm_step X0.here [X0.here.top, hx, (hb hby own_d8_14), X0.method', Bd.returns, Value.isRef, FieldType.isReference]
    first | (intro acts; rw [hr _ acts rfl rfl rfl]) | rw [hr _ _ rfl rfl rfl]
    exact Steps.refl _
  · show own_Q8 Z a1 a2 h0 n0 _ s₁.heap _
    rw [e0]
    exact ⟨(by rw [own_f8]), N0, rfl⟩
-- body 1
theorem own_d1_0 : decode jdk_42_method_139_code 0 = .ok (.getstatic 38, 3) := by decide +kernel
theorem own_d1_3 : decode jdk_42_method_139_code 3 = .ok (.ifCond .eq 23, 3) := by decide +kernel
theorem own_d1_6 : decode jdk_42_method_139_code 6 = .ok (.iload_n 0, 1) := by decide +kernel
theorem own_d1_7 : decode jdk_42_method_139_code 7 = .ok (.invokestatic 1015, 3) := by decide +kernel
theorem own_d1_10 : decode jdk_42_method_139_code 10 = .ok (.ifCond .eq 16, 3) := by decide +kernel
theorem own_d1_13 : decode jdk_42_method_139_code 13 = .ok (.new 10, 3) := by decide +kernel
theorem own_d1_16 : decode jdk_42_method_139_code 16 = .ok (.dup, 1) := by decide +kernel
theorem own_d1_17 : decode jdk_42_method_139_code 17 = .ok (.iload_n 0, 1) := by decide +kernel
theorem own_d1_18 : decode jdk_42_method_139_code 18 = .ok (.invokestatic 1018, 3) := by decide +kernel
theorem own_d1_21 : decode jdk_42_method_139_code 21 = .ok (.iconst 0, 1) := by decide +kernel
theorem own_d1_22 : decode jdk_42_method_139_code 22 = .ok (.invokespecial 209, 3) := by decide +kernel
theorem own_d1_25 : decode jdk_42_method_139_code 25 = .ok (.areturn, 1) := by decide +kernel
theorem own_ef1 (m : MethodId) (x0 : Int32) : entryFrame m #[(.int x0)] 1 = mkF m 0 #[.val (.int x0)] [] := by first | (simp [entryFrame, mkF, argsToLocals, Value.category]; done) | rfl
def own_Q1 (Z : State) (p1 : Int32) (w_COMPACT_STRINGS : Int32) (h0 : Heap) (n0 : Nat) (v : Option Value) (h : Heap) (L : List Loc) : Prop := ∃ (r : Addr), v = some (.ref r) ∧ Fr n0 L ∧ Keep h0 h [] ∧ h0.size ≤ r ∧ Exa Z h r "java/lang/String" ∧ Fld Z h r "java/lang/String" "coder" "B" (.int (nar .byte (0 : Int32)))
set_option maxRecDepth 65536 in
set_option maxHeartbeats 40000000 in
theorem own_rm1 (l : Launch) (Z : State) (a0 : Array Value) (hw : ∀ d ∈ tables_1, d.before a0 Z = true) (ws : List Jvm.Cond) (p1 : Int32) (w_COMPACT_STRINGS : Int32) (h0 : Heap) (n0 : Nat) (Z0 : n0 ≤ h0.size) (hcs : ¬ w_COMPACT_STRINGS = (0 : Int32)) (hp : ¬ (255 : Int32) < p1) (S_COMPACT_STRINGS : Sta Z h0 "java/lang/String" "COMPACT_STRINGS" "Z" (.int w_COMPACT_STRINGS)) :
    MetFree l (⟨"java/lang/String", "valueOf", "(C)Ljava/lang/String;"⟩ : MethodName) (head1 (Jvm.Cond.code (⟨"java/lang/String", "valueOf", "(C)Ljava/lang/String;"⟩ : MethodName) jdk_42_method_139_code 1 (some (.object "java/lang/String")) :: ws) ({ frames := 2, cells := 2, slots := 5, locals := 27 } : Room)) (fun a U => a = #[(.int p1)] ∧ Z.Warmed39 U.vm ∧ U.heap = h0) (fun _ _ _ _ _ => True) (fun _ U o U' => ∃ v L, o = .returned v ∧ own_Q1 Z p1 w_COMPACT_STRINGS h0 n0 v U'.heap L ∧ FrameEnd U o U' L ({ frames := 2, cells := 2, slots := 5, locals := 27 } : Room).cells ({ frames := 2, cells := 2, slots := 5, locals := 27 } : Room).slots) := by
  refine MetFree.of_bodySF (plainFor_of_name own_pn16) hisR ?_
  intro p e s m args below meth c s₁ Bd hml0 hP hK
  obtain ⟨rfl, hZ, hh⟩ := hP
  have hx := Bd.exec
  have hby := Bd.bytes
  have hml : c.maxLocals = 1 := hml0
  have hown : s.vm.findClass "java/lang/String" = some m.cls := findClass_of_methodNamed Bd.named
  have hnm := (name_of_methodNamed Bd.named Bd.method).1
  have X0 : Stand p l e ({ frames := 2, cells := 2, slots := 5, locals := 27 } : Room) s m #[(.int p1)] below meth c s₁ [] 0 0 := Stand.of_body Bd
  have hS0 : s.Since s.vm 0 := (State.WarmedH.refl s).since 0
  have hk0 : 0 ≤ h0.size := Nat.zero_le _
  have hlk := Bd.notSynchronized
  have e0 : s₁.heap = h0 := by rw [← hh, Bd.state]; rfl
  have N0 := Fr.nil n0
  have pre0 : ∀ t, Steps p.tables e below (s₁.setTop (mkF m 0 #[.val (.int p1)] [])) t → Steps p.tables e below (s₁.setTop (entryFrame m #[(.int p1)] 1)) t := fun t k => castTop (own_ef1 m p1) k
  obtain ⟨T1, X1, e1, st1⟩ := getS2 X0 hx hZ hown (host := "") (Or.inl (hw _ (List.mem_of_getElem? (i := 4) rfl))) Via.refl e0 S_COMPACT_STRINGS (g := (mkF m 0 #[.val (.int p1)] [])) rfl (hb hby own_d1_0)
  obtain ⟨v2, _, ⟨T2, L2, k2, n2⟩, -, X2, ⟨Lc2, hQ2, l2, y2, z2⟩, st2⟩ := Jvm.LawKit.callS X1 hx (y := (⟨"java/lang/StringLatin1", "canEncode", "(C)Z"⟩ : MethodName)) hown (mvT hZ (hw _ (List.mem_of_getElem? (i := 5) rfl))) (mvT hZ (hw _ (List.mem_of_getElem? (i := 6) rfl))) (mvT hZ (hw _ (List.mem_of_getElem? (i := 7) rfl))) (mvT hZ (hw _ (List.mem_of_getElem? (i := 8) rfl))) (by decide) (backOf (W := 0) (own_rm2 l Z a0 hw [] p1 h0 n0 Z0) hZ (hw _ (List.mem_of_getElem? (i := 8) rfl)) (hw _ (List.mem_of_getElem? (i := 7) rfl)) (by decide) (by decide)) (g := (mkF m 7 #[.val (.int p1)] [(.int p1)])) rfl (by rw [hml]; rfl) (argsL := [(.int p1)]) (rest := []) (lenOf own_pd35 rfl) rfl (by show 2 * 0 + _ ≤ _; exact Nat.le_of_eq rfl) (hb hby own_d1_7) (fun _ _ => ⟨rfl, e1, (by decide : 0 + 0 ≤ _), (by decide : 0 + 0 ≤ _)⟩)
  dsimp only [Pt.U, Pt.locs, Pt.cells, Pt.slots] at X2 l2 y2 z2 st2 hQ2
  subst l2 y2 z2
  obtain ⟨hv2, N2q, e2⟩ := hQ2
  have N3 := Fr.app N0 N2q
  have hw4 : v2 = some (.int (1 : Int32)) := hv2.trans (by rw [own_f2, if_neg hp])
  subst hw4
  obtain ⟨T5, h5, X5, e5, E5, A5, D5, -, st5⟩ := newO X2 hx hZ hown (hw _ (List.mem_of_getElem? (i := 9) rfl)) (hw _ (List.mem_of_getElem? (i := 10) rfl)) (hw _ (List.mem_of_getElem? (i := 2) rfl)) e2 (g := (mkF m 13 #[.val (.int p1)] [])) rfl (hb hby own_d1_13) (by decide) (by decide)
  obtain ⟨b5, g5⟩ : ∃ z, z = h0.size := ⟨_, rfl⟩
  rw [← g5] at A5 D5 st5
  have g_b5 : n0 ≤ b5 := Nat.le_trans Z0 (Nat.le_of_eq g5.symm)
  have sz_b5 : h0.size ≤ b5 := Nat.le_of_eq g5.symm
  have f6 := S_COMPACT_STRINGS.ext E5
  have Z7 := Nat.le_trans Z0 E5.1
  have K8 : Keep h0 h5 [] := (Keep.refl h0 _).ext E5
  have F_value_b5 : Fld Z h5 b5 "java/lang/String" "value" "[B" .null := D5 (Or.inr (hw _ (List.mem_of_getElem? (i := 23) rfl))) (ty := (.array .byte)) (by decide)
  have F_coder_b5 : Fld Z h5 b5 "java/lang/String" "coder" "B" (.int (0 : Int32)) := D5 (Or.inr (hw _ (List.mem_of_getElem? (i := 25) rfl))) (ty := .byte) (by decide)
  obtain ⟨v9, _, ⟨T9, L9, k9, n9⟩, -, X9, ⟨Lc9, hQ9, l9, y9, z9⟩, st9⟩ := Jvm.LawKit.callS X5 hx (y := (⟨"java/lang/StringLatin1", "toBytes", "(C)[B"⟩ : MethodName)) hown (mvT hZ (hw _ (List.mem_of_getElem? (i := 11) rfl))) (mvT hZ (hw _ (List.mem_of_getElem? (i := 12) rfl))) (mvT hZ (hw _ (List.mem_of_getElem? (i := 7) rfl))) (mvT hZ (hw _ (List.mem_of_getElem? (i := 13) rfl))) (by decide) (backOf (W := 2) (own_rm3 l Z a0 hw [] p1 h5 n0 Z7) hZ (hw _ (List.mem_of_getElem? (i := 13) rfl)) (hw _ (List.mem_of_getElem? (i := 7) rfl)) (by decide) (by decide)) (g := (mkF m 18 #[.val (.int p1)] [(.int p1), (.ref b5), (.ref b5)])) rfl (by rw [hml]; rfl) (argsL := [(.int p1)]) (rest := [(.ref b5), (.ref b5)]) (lenOf own_pd36 rfl) rfl (by show 2 * 0 + _ ≤ _; exact Nat.le_of_eq rfl) (hb hby own_d1_18) (fun _ _ => ⟨rfl, e5, (by decide : 1 + 1 ≤ _), (by decide : 4 + 1 ≤ _)⟩)
  dsimp only [Pt.U, Pt.locs, Pt.cells, Pt.slots] at X9 l9 y9 z9 st9 hQ9
  subst l9 y9 z9
  obtain ⟨r9, kr9, rfl, N9q, K9, hr9, Q9_0⟩ := hQ9
  have ne_b5_r9 : b5 ≠ r9 := Nat.ne_of_lt (Nat.lt_of_lt_of_le A5.lt hr9)
  have g_r9 : n0 ≤ r9 := Nat.le_trans Z7 hr9
  have sz_r9 : h0.size ≤ r9 := Nat.le_trans K8.1 hr9
  have f10 := own_staKeep f6 K9
  have f11 := A5.keep K9
  have f12 := F_value_b5.keep K9 nin0
  have f13 := F_coder_b5.keep K9 nin0
  have Z14 := Nat.le_trans Z7 K9.1
  have K15 : Keep h0 T9.heap [] := Keep.trans K8 K9 all0
  have N16 := Fr.app N3 N9q
  obtain ⟨v17, _, ⟨T17, L17, k17, n17⟩, -, X17, ⟨Lc17, hQ17, l17, y17, z17⟩, st17⟩ := X9.specialBack hx (y := (⟨"java/lang/String", "<init>", "([BB)V"⟩ : MethodName)) rfl hown (mvT hZ (hw _ (List.mem_of_getElem? (i := 15) rfl))) (mvT hZ (hw _ (List.mem_of_getElem? (i := 16) rfl))) (mvT hZ (hw _ (List.mem_of_getElem? (i := 18) rfl))) (by decide) (backOf (W := 1) (own_rm4 l Z a0 hw [] b5 r9 (0 : Int32) .null (0 : Int32) T9.heap n0 Z14 f11 f12 g_b5 f13) hZ (hw _ (List.mem_of_getElem? (i := 18) rfl)) (hw _ (List.mem_of_getElem? (i := 2) rfl)) (by decide) (by decide)) (g := (mkF m 22 #[.val (.int p1)] [(.int (0 : Int32)), (.ref r9), (.ref b5), (.ref b5)])) rfl (by rw [hml]; rfl) (Steps.refl _) (a := b5) (argsL := [(.ref r9), (.int (0 : Int32))]) (rest := [(.ref b5)]) (lenOf own_pd38 rfl) rfl (by show 2 * 0 + _ ≤ _; exact Nat.le_of_eq rfl) (hb hby own_d1_22) (fun _ _ => ⟨rfl, rfl, (by decide : 2 + 0 ≤ _), (by decide : 5 + 0 ≤ _)⟩)
  dsimp only [Pt.U, Pt.locs, Pt.cells, Pt.slots] at X17 l17 y17 z17 st17 hQ17
  subst l17 y17 z17
  obtain ⟨rfl, N17q, K17, Q17_0, Q17_1, Q17_2⟩ := hQ17
  have f18 := own_staKeepE f10 K17 (allS ⟨_, f11⟩ all0)
  have f19 := f11.keep K17
  have f22 := Q9_0.keep K17 (ninS (Ne.symm ne_b5_r9) nin0)
  have Z23 := Nat.le_trans Z14 K17.1
  have K24 : Keep h0 T17.heap [] := Keep.trans K15 K17 (allS (Or.inr sz_b5) all0)
  have N25 := Fr.app N16 N17q
  obtain ⟨fs, hr, hrun, hended, hW, hsame⟩ := X17.leave (hlocks := hlk) (v := some (.ref b5)) (fun h => by rw [Bd.returns] at h; cases h)
  refine ⟨_, _, pre0 _ ?_, hrun, hended, _, _, rfl, ?_, ⟨_, rfl⟩, hW, hsame.mono (by decide) (by decide)⟩
  · show Steps p.tables e below (s₁.setTop (mkF m 0 #[.val (.int p1)] [])) _
    refine st1 _ ?_
    show Steps p.tables e below (T1.setTop (mkF m 3 #[.val (.int p1)] [(.int w_COMPACT_STRINGS)])) _
    refine XS.ifNo X1.here hx rfl (hb hby own_d1_3) rfl ((if0 _ _).trans (feq hcs).1) ?_
    show Steps p.tables e below (T1.setTop (mkF m 6 #[.val (.int p1)] [])) _
    refine XS.iloadN X1.here hx rfl (hb hby own_d1_6) rfl ?_
    show Steps p.tables e below (T1.setTop (mkF m 7 #[.val (.int p1)] [(.int p1)])) _
    refine st2 _ ?_
    show Steps p.tables e below (T2.setTop (mkF m 10 #[.val (.int p1)] [(.int (1 : Int32))])) _
    refine XS.ifNo X2.here hx rfl (hb hby own_d1_10) rfl ((if0 _ _).trans (feq (by decide : ¬ ((1 : Int32) = (0 : Int32)))).1) ?_
    show Steps p.tables e below (T2.setTop (mkF m 13 #[.val (.int p1)] [])) _
    refine st5 _ ?_
    show Steps p.tables e below (T5.setTop (mkF m 16 #[.val (.int p1)] [(.ref b5)])) _
    refine XS.dup X5.here hx rfl (hb hby own_d1_16) rfl rfl ?_
    show Steps p.tables e below (T5.setTop (mkF m 17 #[.val (.int p1)] [(.ref b5), (.ref b5)])) _
    refine XS.iloadN X5.here hx rfl (hb hby own_d1_17) rfl ?_
    show Steps p.tables e below (T5.setTop (mkF m 18 #[.val (.int p1)] [(.int p1), (.ref b5), (.ref b5)])) _
    refine st9 _ ?_
    show Steps p.tables e below (T9.setTop (mkF m 21 #[.val (.int p1)] [(.ref r9), (.ref b5), (.ref b5)])) _
    refine XS.iconst X9.here hx rfl (hb hby own_d1_21) ?_
    show Steps p.tables e below (T9.setTop (mkF m 22 #[.val (.int p1)] [(.int (0 : Int32)), (.ref r9), (.ref b5), (.ref b5)])) _
    refine st17.trans ?_
    show Steps p.tables e below (T17.setTop (mkF m 25 #[.val (.int p1)] [(.ref b5)])) _
    jvm_step X17.here [X17.here.top, hx, (hb hby own_d1_25), X17.method', Bd.returns, Value.isRef, FieldType.isReference]
    first | (intro acts; rw [hr _ acts rfl rfl rfl]) | rw [hr _ _ rfl rfl rfl]
    exact Steps.refl _
  · show own_Q1 Z p1 w_COMPACT_STRINGS h0 n0 _ T17.heap _
    exact ⟨b5, rfl, N25, K24, sz_b5, Q17_0, Q17_2⟩
-- body 6
theorem own_d6_0 : decode prog_54_method_1_code 0 = .ok (.aload_n 0, 1) := by decide +kernel
theorem own_d6_1 : decode prog_54_method_1_code 1 = .ok (.invokespecial 1, 3) := by decide +kernel
theorem own_d6_4 : decode prog_54_method_1_code 4 = .ok (.aload_n 1, 1) := by decide +kernel
theorem own_d6_5 : decode prog_54_method_1_code 5 = .ok (.ldc 7, 2) := by decide +kernel
theorem own_d6_7 : decode prog_54_method_1_code 7 = .ok (.invokestatic 9, 3) := by decide +kernel
theorem own_d6_10 : decode prog_54_method_1_code 10 = .ok (.pop, 1) := by decide +kernel
theorem own_d6_11 : decode prog_54_method_1_code 11 = .ok (.aload_n 0, 1) := by decide +kernel
theorem own_d6_12 : decode prog_54_method_1_code 12 = .ok (.aload_n 1, 1) := by decide +kernel
theorem own_d6_13 : decode prog_54_method_1_code 13 = .ok (.putfield 15, 3) := by decide +kernel
theorem own_d6_16 : decode prog_54_method_1_code 16 = .ok (.aload_n 0, 1) := by decide +kernel
theorem own_d6_17 : decode prog_54_method_1_code 17 = .ok (.iload_n 2, 1) := by decide +kernel
theorem own_d6_18 : decode prog_54_method_1_code 18 = .ok (.putfield 20, 3) := by decide +kernel
theorem own_d6_21 : decode prog_54_method_1_code 21 = .ok (.aload_n 0, 1) := by decide +kernel
theorem own_d6_22 : decode prog_54_method_1_code 22 = .ok (.iload_n 3, 1) := by decide +kernel
theorem own_d6_23 : decode prog_54_method_1_code 23 = .ok (.putfield 24, 3) := by decide +kernel
theorem own_d6_26 : decode prog_54_method_1_code 26 = .ok (.return_, 1) := by decide +kernel
theorem own_ef6 (m : MethodId) (x0 : Addr) (x1 : Addr) (x2 : Int32) (x3 : Int32) : entryFrame m #[(.ref x0), (.ref x1), (.int x2), (.int x3)] 4 = mkF m 0 #[.val (.ref x0), .val (.ref x1), .val (.int x2), .val (.int x3)] [] := by first | (simp [entryFrame, mkF, argsToLocals, Value.category]; done) | rfl
def own_Q6 (Z : State) (a1 : Addr) (a2 : Addr) (p3 : Int32) (p4 : Int32) (u_file_a1 : Value) (w_line_a1 : Int32) (w_column_a1 : Int32) (h0 : Heap) (n0 : Nat) (v : Option Value) (h : Heap) (L : List Loc) : Prop := v = none ∧ Fr n0 L ∧ Keep h0 h [a1] ∧ Exa Z h a1 "com/example/edgbaston/edgbaston/source/Location" ∧ Fld Z h a1 "com/example/edgbaston/edgbaston/source/Location" "file" "Ljava/lang/String;" (.ref a2) ∧ Fld Z h a1 "com/example/edgbaston/edgbaston/source/Location" "line" "I" (.int p3) ∧ Fld Z h a1 "com/example/edgbaston/edgbaston/source/Location" "column" "I" (.int p4)
set_option maxRecDepth 65536 in
set_option maxHeartbeats 40000000 in
theorem own_rm6 (l : Launch) (Z : State) (a0 : Array Value) (hw : ∀ d ∈ tables_1, d.before a0 Z = true) (ws : List Jvm.Cond) (a1 : Addr) (a2 : Addr) (p3 : Int32) (p4 : Int32) (u_file_a1 : Value) (w_line_a1 : Int32) (w_column_a1 : Int32) (h0 : Heap) (n0 : Nat) (Z0 : n0 ≤ h0.size) (E_a1 : Exa Z h0 a1 "com/example/edgbaston/edgbaston/source/Location") (F_file_a1 : Fld Z h0 a1 "com/example/edgbaston/edgbaston/source/Location" "file" "Ljava/lang/String;" u_file_a1) (g_a1 : n0 ≤ a1) (F_line_a1 : Fld Z h0 a1 "com/example/edgbaston/edgbaston/source/Location" "line" "I" (.int w_line_a1)) (F_column_a1 : Fld Z h0 a1 "com/example/edgbaston/edgbaston/source/Location" "column" "I" (.int w_column_a1)) :
    MetFree l (⟨"com/example/edgbaston/edgbaston/source/Location", "<init>", "(Ljava/lang/String;II)V"⟩ : MethodName) (head1 (Jvm.Cond.code (⟨"com/example/edgbaston/edgbaston/source/Location", "<init>", "(Ljava/lang/String;II)V"⟩ : MethodName) prog_54_method_1_code 4 none :: ws) ({ frames := 2, cells := 2, slots := 20, locals := 24 } : Room)) (fun a U => a = #[(.ref a1), (.ref a2), (.int p3), (.int p4)] ∧ Z.Warmed39 U.vm ∧ U.heap = h0) (fun _ _ _ _ _ => True) (fun _ U o U' => ∃ v L, o = .returned v ∧ own_Q6 Z a1 a2 p3 p4 u_file_a1 w_line_a1 w_column_a1 h0 n0 v U'.heap L ∧ ReturnedEndW U o U' L ({ frames := 2, cells := 2, slots := 20, locals := 24 } : Room).cells ({ frames := 2, cells := 2, slots := 20, locals := 24 } : Room).slots) := by
  refine MetFree.of_bodySF (plainFor_of_name own_pn55) hisR ?_
  intro p e s m args below meth c s₁ Bd hml0 hP hK
  obtain ⟨rfl, hZ, hh⟩ := hP
  have hx := Bd.exec
  have hby := Bd.bytes
  have hml : c.maxLocals = 4 := hml0
  have hown : s.vm.findClass "com/example/edgbaston/edgbaston/source/Location" = some m.cls := findClass_of_methodNamed Bd.named
  have hnm := (name_of_methodNamed Bd.named Bd.method).1
  have X0 : Stand p l e ({ frames := 2, cells := 2, slots := 20, locals := 24 } : Room) (s.setVm s.vm) m #[(.ref a1), (.ref a2), (.int p3), (.int p4)] below meth c s₁ [] 0 0 := Stand.of_body Bd
  have hS0 : s.Since s.vm 0 := (State.WarmedH.refl s).since 0
  have hk0 : 0 ≤ h0.size := Nat.zero_le _
  have hlk := Bd.notSynchronized
  have e0 : s₁.heap = h0 := by rw [← hh, Bd.state]; rfl
  have N0 := Fr.nil n0
  have pre0 : ∀ t, Steps p.tables e below (s₁.setTop (mkF m 0 #[.val (.ref a1), .val (.ref a2), .val (.int p3), .val (.int p4)] [])) t → Steps p.tables e below (s₁.setTop (entryFrame m #[(.ref a1), (.ref a2), (.int p3), (.int p4)] 4)) t := fun t k => castTop (own_ef6 m a1 a2 p3 p4) k
  obtain ⟨v1, _, ⟨T1, L1, k1, n1⟩, -, X1, ⟨Lc1, hQ1, l1, y1, z1⟩, st1⟩ := X0.specialBack hx (y := (⟨"java/lang/Record", "<init>", "()V"⟩ : MethodName)) rfl hown (mvT hZ (hw _ (List.mem_of_getElem? (i := 32) rfl))) (mvT hZ (hw _ (List.mem_of_getElem? (i := 33) rfl))) (mvT hZ (hw _ (List.mem_of_getElem? (i := 36) rfl))) (by decide) (backOf (W := 0) (own_rm7 l Z a0 hw [] a1 h0 n0 Z0) hZ (hw _ (List.mem_of_getElem? (i := 36) rfl)) (hw _ (List.mem_of_getElem? (i := 35) rfl)) (by decide) (by decide)) (g := (mkF m 1 #[.val (.ref a1), .val (.ref a2), .val (.int p3), .val (.int p4)] [(.ref a1)])) rfl (by rw [hml]; rfl) (Steps.refl _) (a := a1) (argsL := []) (rest := []) (lenOf own_pd52 rfl) rfl (by show 2 * 0 + _ ≤ _; exact Nat.le_of_eq rfl) (hb hby own_d6_1) (fun _ _ => ⟨rfl, e0, (by decide : 0 + 0 ≤ _), (by decide : 0 + 0 ≤ _)⟩)
  dsimp only [Pt.U, Pt.locs, Pt.cells, Pt.slots] at X1 l1 y1 z1 st1 hQ1
  subst l1 y1 z1
  obtain ⟨rfl, N1q, e1⟩ := hQ1
  have N2 := Fr.app N0 N1q
  obtain ⟨a3, T3, h3, kk3, X3, e3, E3, hS3, hk3, hZ3, hown3, st3⟩ := ldcS X1 hx hZ hown (hw _ (List.mem_of_getElem? (i := 38) rfl)) (own_wS hw) e1 hS0 hk0 (g := (mkF m 5 #[.val (.ref a1), .val (.ref a2), .val (.int p3), .val (.int p4)] [(.ref a2)])) rfl (hb hby own_d6_5) (n := 16) (by first | decide | simp | decide +kernel) (by decide) (by decide) (by decide)
  have f4 := E_a1.ext E3
  have f5 := F_file_a1.ext E3
  have f6 := F_line_a1.ext E3
  have f7 := F_column_a1.ext E3
  have Z8 := Nat.le_trans Z0 E3.1
  have K9 : Keep h0 h3 [a1] := (Keep.refl h0 _).ext E3
  obtain ⟨v10, _, ⟨T10, L10, k10, n10⟩, -, X10, ⟨Lc10, hQ10, l10, y10, z10⟩, st10⟩ := Jvm.LawKit.callS X3 hx (y := (⟨"java/util/Objects", "requireNonNull", "(Ljava/lang/Object;Ljava/lang/String;)Ljava/lang/Object;"⟩ : MethodName)) hown3 (mvT hZ3 (hw _ (List.mem_of_getElem? (i := 41) rfl))) (mvT hZ3 (hw _ (List.mem_of_getElem? (i := 42) rfl))) (mvT hZ3 (hw _ (List.mem_of_getElem? (i := 43) rfl))) (mvT hZ3 (hw _ (List.mem_of_getElem? (i := 44) rfl))) (by decide) (backOf (W := 0) (own_rm8 l Z a0 hw [] a2 a3 h3 n0 Z8) hZ3 (hw _ (List.mem_of_getElem? (i := 44) rfl)) (hw _ (List.mem_of_getElem? (i := 43) rfl)) (by decide) (by decide)) (g := (mkF m 7 #[.val (.ref a1), .val (.ref a2), .val (.int p3), .val (.int p4)] [(.ref a3), (.ref a2)])) rfl (by rw [hml]; rfl) (argsL := [(.ref a2), (.ref a3)]) (rest := []) (lenOf own_pd54 rfl) rfl (by show 2 * 0 + _ ≤ _; exact Nat.le_of_eq rfl) (hb hby own_d6_7) (fun _ _ => ⟨rfl, e3, (by decide : 2 + 0 ≤ _), (by decide : 20 + 0 ≤ _)⟩)
  dsimp only [Pt.U, Pt.locs, Pt.cells, Pt.slots] at X10 l10 y10 z10 st10 hQ10
  subst l10 y10 z10
  obtain ⟨hv10, N10q, e10⟩ := hQ10
  have N11 := Fr.app N2 N10q
  rw [show (own_f8 a2) = a2 from by first | rfl | decide | simp [own_f8]] at hv10
  subst hv10
  obtain ⟨T12, h12, X12, e12, W12, st12⟩ := putF X10 hx hZ3 hown3 (host := "") (Or.inl (hw _ (List.mem_of_getElem? (i := 45) rfl))) Via.refl e10 f5 f4 (Or.inr ⟨(hw _ (List.mem_of_getElem? (i := 46) rfl)), rfl, hnm⟩) (hw _ (List.mem_of_getElem? (i := 27) rfl)) (ty := (.object "java/lang/String")) (by decide) rfl rfl (g := (mkF m 13 #[.val (.ref a1), .val (.ref a2), .val (.int p3), .val (.int p4)] [(.ref a2), (.ref a1)])) rfl rfl (hb hby own_d6_13)
  have N13 := Fr.snoc X12 N11 g_a1
  have Z14 := Nat.le_trans Z8 (Keep.of_wr W12).1
  have hk15 := Nat.le_trans hk3 (Keep.of_wr W12).1
  have K16 : Keep h0 h12 [a1] := K9.wr W12 (Or.inl (List.mem_of_getElem? (i := 0) rfl))
  have f17 := f4.wr W12
  have f18 := f5.same W12
  have f19 := f6.other W12 (Or.inr (slot_ne (Or.inr (hw _ (List.mem_of_getElem? (i := 48) rfl))) (Or.inr (hw _ (List.mem_of_getElem? (i := 46) rfl))) (by decide) (t := .int) (t' := (.object "java/lang/String")) (by decide) (by decide)))
  have f20 := f7.other W12 (Or.inr (slot_ne (Or.inr (hw _ (List.mem_of_getElem? (i := 50) rfl))) (Or.inr (hw _ (List.mem_of_getElem? (i := 46) rfl))) (by decide) (t := .int) (t' := (.object "java/lang/String")) (by decide) (by decide)))
  obtain ⟨T21, h21, X21, e21, W21, st21⟩ := putF X12 hx hZ3 hown3 (host := "") (Or.inl (hw _ (List.mem_of_getElem? (i := 47) rfl))) Via.refl e12 f19 f17 (Or.inr ⟨(hw _ (List.mem_of_getElem? (i := 48) rfl)), rfl, hnm⟩) (hw _ (List.mem_of_getElem? (i := 27) rfl)) (ty := .int) (by decide) rfl rfl (g := (mkF m 18 #[.val (.ref a1), .val (.ref a2), .val (.int p3), .val (.int p4)] [(.int p3), (.ref a1)])) rfl rfl (hb hby own_d6_18)
  have N22 := Fr.snoc X21 N13 g_a1
  have Z23 := Nat.le_trans Z14 (Keep.of_wr W21).1
  have hk24 := Nat.le_trans hk15 (Keep.of_wr W21).1
  have K25 : Keep h0 h21 [a1] := K16.wr W21 (Or.inl (List.mem_of_getElem? (i := 0) rfl))
  have f26 := f17.wr W21
  have f27 := f18.other W21 (Or.inr (slot_ne (Or.inr (hw _ (List.mem_of_getElem? (i := 46) rfl))) (Or.inr (hw _ (List.mem_of_getElem? (i := 48) rfl))) (by decide) (t := (.object "java/lang/String")) (t' := .int) (by decide) (by decide)))
  have f28 := f19.same W21
  have f29 := f20.other W21 (Or.inr (slot_ne (Or.inr (hw _ (List.mem_of_getElem? (i := 50) rfl))) (Or.inr (hw _ (List.mem_of_getElem? (i := 48) rfl))) (by decide) (t := .int) (t' := .int) (by decide) (by decide)))
  obtain ⟨T30, h30, X30, e30, W30, st30⟩ := putF X21 hx hZ3 hown3 (host := "") (Or.inl (hw _ (List.mem_of_getElem? (i := 49) rfl))) Via.refl e21 f29 f26 (Or.inr ⟨(hw _ (List.mem_of_getElem? (i := 50) rfl)), rfl, hnm⟩) (hw _ (List.mem_of_getElem? (i := 27) rfl)) (ty := .int) (by decide) rfl rfl (g := (mkF m 23 #[.val (.ref a1), .val (.ref a2), .val (.int p3), .val (.int p4)] [(.int p4), (.ref a1)])) rfl rfl (hb hby own_d6_23)
  have N31 := Fr.snoc X30 N22 g_a1
  have Z32 := Nat.le_trans Z23 (Keep.of_wr W30).1
  have hk33 := Nat.le_trans hk24 (Keep.of_wr W30).1
  have K34 : Keep h0 h30 [a1] := K25.wr W30 (Or.inl (List.mem_of_getElem? (i := 0) rfl))
  have f35 := f26.wr W30
  have f36 := f27.other W30 (Or.inr (slot_ne (Or.inr (hw _ (List.mem_of_getElem? (i := 46) rfl))) (Or.inr (hw _ (List.mem_of_getElem? (i := 50) rfl))) (by decide) (t := (.object "java/lang/String")) (t' := .int) (by decide) (by decide)))
  have f37 := f28.other W30 (Or.inr (slot_ne (Or.inr (hw _ (List.mem_of_getElem? (i := 48) rfl))) (Or.inr (hw _ (List.mem_of_getElem? (i := 50) rfl))) (by decide) (t := .int) (t' := .int) (by decide) (by decide)))
  have f38 := f29.same W30
  obtain ⟨fs, hr, hrun, hended, hE⟩ := Stand.leaveW (s := s) (vm₁ := T3.vm) X30 hS3 (by rw [e30]; exact hk33) (hlocks := hlk) (v := none) (fun _ => rfl)
  refine ⟨_, _, pre0 _ ?_, hrun, hended, _, _, rfl, ?_, hE.1, hE.2.1, hE.2.2.1, hE.2.2.2.mono (by decide) (by decide)⟩
  · show Steps p.tables e below (s₁.setTop (mkF m 0 #[.val (.ref a1), .val (.ref a2), .val (.int p3), .val (.int p4)] [])) _
    refine XS.aloadN X0.here hx rfl (hb hby own_d6_0) rfl rfl ?_
    show Steps p.tables e below (s₁.setTop (mkF m 1 #[.val (.ref a1), .val (.ref a2), .val (.int p3), .val (.int p4)] [(.ref a1)])) _
    refine st1.trans ?_
    show Steps p.tables e below (T1.setTop (mkF m 4 #[.val (.ref a1), .val (.ref a2), .val (.int p3), .val (.int p4)] [])) _
    refine XS.aloadN X1.here hx rfl (hb hby own_d6_4) rfl rfl ?_
    show Steps p.tables e below (T1.setTop (mkF m 5 #[.val (.ref a1), .val (.ref a2), .val (.int p3), .val (.int p4)] [(.ref a2)])) _
    refine st3 _ ?_
    show Steps p.tables e below (T3.setTop (mkF m 7 #[.val (.ref a1), .val (.ref a2), .val (.int p3), .val (.int p4)] [(.ref a3), (.ref a2)])) _
    refine st10 _ ?_
    show Steps p.tables e below (T10.setTop (mkF m 10 #[.val (.ref a1), .val (.ref a2), .val (.int p3), .val (.int p4)] [(.ref a2)])) _
    refine XS.pop X10.here hx rfl (hb hby own_d6_10) rfl rfl ?_
    show Steps p.tables e below (T10.setTop (mkF m 11 #[.val (.ref a1), .val (.ref a2), .val (.int p3), .val (.int p4)] [])) _
    refine XS.aloadN X10.here hx rfl (hb hby own_d6_11) rfl rfl ?_
    show Steps p.tables e below (T10.setTop (mkF m 12 #[.val (.ref a1), .val (.ref a2), .val (.int p3), .val (.int p4)] [(.ref a1)])) _
    refine XS.aloadN X10.here hx rfl (hb hby own_d6_12) rfl rfl ?_
    show Steps p.tables e below (T10.setTop (mkF m 13 #[.val (.ref a1), .val (.ref a2), .val (.int p3), .val (.int p4)] [(.ref a2), (.ref a1)])) _
    refine st12 _ ?_
    show Steps p.tables e below (T12.setTop (mkF m 16 #[.val (.ref a1), .val (.ref a2), .val (.int p3), .val (.int p4)] [])) _
    refine XS.aloadN X12.here hx rfl (hb hby own_d6_16) rfl rfl ?_
    show Steps p.tables e below (T12.setTop (mkF m 17 #[.val (.ref a1), .val (.ref a2), .val (.int p3), .val (.int p4)] [(.ref a1)])) _
    refine XS.iloadN X12.here hx rfl (hb hby own_d6_17) rfl ?_
    show Steps p.tables e below (T12.setTop (mkF m 18 #[.val (.ref a1), .val (.ref a2), .val (.int p3), .val (.int p4)] [(.int p3), (.ref a1)])) _
    refine st21 _ ?_
    show Steps p.tables e below (T21.setTop (mkF m 21 #[.val (.ref a1), .val (.ref a2), .val (.int p3), .val (.int p4)] [])) _
    refine XS.aloadN X21.here hx rfl (hb hby own_d6_21) rfl rfl ?_
    show Steps p.tables e below (T21.setTop (mkF m 22 #[.val (.ref a1), .val (.ref a2), .val (.int p3), .val (.int p4)] [(.ref a1)])) _
    refine XS.iloadN X21.here hx rfl (hb hby own_d6_22) rfl ?_
    show Steps p.tables e below (T21.setTop (mkF m 23 #[.val (.ref a1), .val (.ref a2), .val (.int p3), .val (.int p4)] [(.int p4), (.ref a1)])) _
    refine st30 _ ?_
    show Steps p.tables e below (T30.setTop (mkF m 26 #[.val (.ref a1), .val (.ref a2), .val (.int p3), .val (.int p4)] [])) _
    exact X30.returnOut hx Bd.returns (hb hby own_d6_26) hr
  · show own_Q6 Z a1 a2 p3 p4 u_file_a1 w_line_a1 w_column_a1 h0 n0 _ T30.heap _
    rw [e30]
    exact ⟨rfl, N31, K34, f35, f36, f37, f38⟩
-- body 9
theorem own_d9_0 : decode prog_54_method_2_code 0 = .ok (.aload_n 0, 1) := by decide +kernel
theorem own_d9_1 : decode prog_54_method_2_code 1 = .ok (.getfield 20, 3) := by decide +kernel
theorem own_d9_4 : decode prog_54_method_2_code 4 = .ok (.aload_n 1, 1) := by decide +kernel
theorem own_d9_5 : decode prog_54_method_2_code 5 = .ok (.getfield 20, 3) := by decide +kernel
theorem own_d9_8 : decode prog_54_method_2_code 8 = .ok (.if_icmp .lt 25, 3) := by decide +kernel
theorem own_d9_11 : decode prog_54_method_2_code 11 = .ok (.aload_n 0, 1) := by decide +kernel
theorem own_d9_12 : decode prog_54_method_2_code 12 = .ok (.getfield 20, 3) := by decide +kernel
theorem own_d9_15 : decode prog_54_method_2_code 15 = .ok (.aload_n 1, 1) := by decide +kernel
theorem own_d9_16 : decode prog_54_method_2_code 16 = .ok (.getfield 20, 3) := by decide +kernel
theorem own_d9_19 : decode prog_54_method_2_code 19 = .ok (.if_icmp .ne 18, 3) := by decide +kernel
theorem own_d9_22 : decode prog_54_method_2_code 22 = .ok (.aload_n 0, 1) := by decide +kernel
theorem own_d9_23 : decode prog_54_method_2_code 23 = .ok (.getfield 24, 3) := by decide +kernel
theorem own_d9_26 : decode prog_54_method_2_code 26 = .ok (.aload_n 1, 1) := by decide +kernel
theorem own_d9_27 : decode prog_54_method_2_code 27 = .ok (.getfield 24, 3) := by decide +kernel
theorem own_d9_30 : decode prog_54_method_2_code 30 = .ok (.if_icmp .ge 7, 3) := by decide +kernel
theorem own_d9_33 : decode prog_54_method_2_code 33 = .ok (.iconst 1, 1) := by decide +kernel
theorem own_d9_34 : decode prog_54_method_2_code 34 = .ok (.goto 4, 3) := by decide +kernel
theorem own_d9_37 : decode prog_54_method_2_code 37 = .ok (.iconst 0, 1) := by decide +kernel
theorem own_d9_38 : decode prog_54_method_2_code 38 = .ok (.ireturn, 1) := by decide +kernel
theorem own_ef9 (m : MethodId) (x0 : Addr) (x1 : Addr) : entryFrame m #[(.ref x0), (.ref x1)] 2 = mkF m 0 #[.val (.ref x0), .val (.ref x1)] [] := by first | (simp [entryFrame, mkF, argsToLocals, Value.category]; done) | rfl
def own_f9 (w_line_a1 : Int32) (w_line_a2 : Int32) (w_column_a1 : Int32) (w_column_a2 : Int32) : Int32 := if w_line_a1 < w_line_a2 then (1 : Int32)
    else if w_line_a1 = w_line_a2 then (if w_column_a1 < w_column_a2 then (1 : Int32)
        else (0 : Int32))
      else (0 : Int32)
def own_Q9 (Z : State) (a1 : Addr) (a2 : Addr) (w_line_a1 : Int32) (w_line_a2 : Int32) (w_column_a1 : Int32) (w_column_a2 : Int32) (h0 : Heap) (n0 : Nat) (v : Option Value) (h : Heap) (L : List Loc) : Prop := v = some (.int (own_f9 w_line_a1 w_line_a2 w_column_a1 w_column_a2)) ∧ Fr n0 L ∧ h = h0
set_option maxRecDepth 65536 in
set_option maxHeartbeats 40000000 in
theorem own_rm9 (l : Launch) (Z : State) (a0 : Array Value) (hw : ∀ d ∈ tables_1, d.before a0 Z = true) (ws : List Jvm.Cond) (a1 : Addr) (a2 : Addr) (w_line_a1 : Int32) (w_line_a2 : Int32) (w_column_a1 : Int32) (w_column_a2 : Int32) (h0 : Heap) (n0 : Nat) (Z0 : n0 ≤ h0.size) (F_line_a1 : Fld Z h0 a1 "com/example/edgbaston/edgbaston/source/Location" "line" "I" (.int w_line_a1)) (F_line_a2 : Fld Z h0 a2 "com/example/edgbaston/edgbaston/source/Location" "line" "I" (.int w_line_a2)) (F_column_a1 : Fld Z h0 a1 "com/example/edgbaston/edgbaston/source/Location" "column" "I" (.int w_column_a1)) (F_column_a2 : Fld Z h0 a2 "com/example/edgbaston/edgbaston/source/Location" "column" "I" (.int w_column_a2)) :
    MetFree l (⟨"com/example/edgbaston/edgbaston/source/Location", "isBefore", "(Lcom/example/edgbaston/edgbaston/source/Location;)Z"⟩ : MethodName) (head1 (Jvm.Cond.code (⟨"com/example/edgbaston/edgbaston/source/Location", "isBefore", "(Lcom/example/edgbaston/edgbaston/source/Location;)Z"⟩ : MethodName) prog_54_method_2_code 2 (some .boolean) :: ws) ({ frames := 0, cells := 0, slots := 0, locals := 0 } : Room)) (fun a U => a = #[(.ref a1), (.ref a2)] ∧ Z.Warmed39 U.vm ∧ U.heap = h0) (fun _ _ _ _ _ => True) (fun _ U o U' => ∃ v L, o = .returned v ∧ own_Q9 Z a1 a2 w_line_a1 w_line_a2 w_column_a1 w_column_a2 h0 n0 v U'.heap L ∧ FrameEnd U o U' L ({ frames := 0, cells := 0, slots := 0, locals := 0 } : Room).cells ({ frames := 0, cells := 0, slots := 0, locals := 0 } : Room).slots) := by
  refine MetFree.of_bodySF (plainFor_of_name own_pn55) hisR ?_
  intro p e s m args below meth c s₁ Bd hml0 hP hK
  obtain ⟨rfl, hZ, hh⟩ := hP
  have hx := Bd.exec
  have hby := Bd.bytes
  have hml : c.maxLocals = 2 := hml0
  have hown : s.vm.findClass "com/example/edgbaston/edgbaston/source/Location" = some m.cls := findClass_of_methodNamed Bd.named
  have hnm := (name_of_methodNamed Bd.named Bd.method).1
  have X0 : Stand p l e ({ frames := 0, cells := 0, slots := 0, locals := 0 } : Room) s m #[(.ref a1), (.ref a2)] below meth c s₁ [] 0 0 := Stand.of_body Bd
  have hS0 : s.Since s.vm 0 := (State.WarmedH.refl s).since 0
  have hk0 : 0 ≤ h0.size := Nat.zero_le _
  have hlk := Bd.notSynchronized
  have e0 : s₁.heap = h0 := by rw [← hh, Bd.state]; rfl
  have N0 := Fr.nil n0
  have pre0 : ∀ t, Steps p.tables e below (s₁.setTop (mkF m 0 #[.val (.ref a1), .val (.ref a2)] [])) t → Steps p.tables e below (s₁.setTop (entryFrame m #[(.ref a1), (.ref a2)] 2)) t := fun t k => castTop (own_ef9 m a1 a2) k
  obtain ⟨T1, X1, e1, st1⟩ := getF X0 hx hZ hown (host := "") (Or.inl (hw _ (List.mem_of_getElem? (i := 47) rfl))) Via.refl e0 F_line_a1 (g := (mkF m 1 #[.val (.ref a1), .val (.ref a2)] [(.ref a1)])) rfl rfl (hb hby own_d9_1)
  obtain ⟨T2, X2, e2, st2⟩ := getF X1 hx hZ hown (host := "") (Or.inl (hw _ (List.mem_of_getElem? (i := 47) rfl))) Via.refl e1 F_line_a2 (g := (mkF m 5 #[.val (.ref a1), .val (.ref a2)] [(.ref a2), (.int w_line_a1)])) rfl rfl (hb hby own_d9_5)
  have k3 : ∀ t, Steps p.tables e below (T2.setTop (mkF m 8 #[.val (.ref a1), .val (.ref a2)] [(.int w_line_a2), (.int w_line_a1)])) t → Steps p.tables e below (s₁.setTop (entryFrame m #[(.ref a1), (.ref a2)] 2)) t := by
    intro t kt
    refine pre0 t ?_
    show Steps p.tables e below (s₁.setTop (mkF m 0 #[.val (.ref a1), .val (.ref a2)] [])) _
    refine XS.aloadN X0.here hx rfl (hb hby own_d9_0) rfl rfl ?_
    show Steps p.tables e below (s₁.setTop (mkF m 1 #[.val (.ref a1), .val (.ref a2)] [(.ref a1)])) _
    refine st1 _ ?_
    show Steps p.tables e below (T1.setTop (mkF m 4 #[.val (.ref a1), .val (.ref a2)] [(.int w_line_a1)])) _
    refine XS.aloadN X1.here hx rfl (hb hby own_d9_4) rfl rfl ?_
    show Steps p.tables e below (T1.setTop (mkF m 5 #[.val (.ref a1), .val (.ref a2)] [(.ref a2), (.int w_line_a1)])) _
    refine st2 _ ?_
    exact kt
  by_cases hc1 : w_line_a1 < w_line_a2
  ·
    obtain ⟨fs, hr, hrun, hended, hW, hsame⟩ := X2.leave (hlocks := hlk) (v := some (.int (1 : Int32))) (fun h => by rw [Bd.returns] at h; cases h)
    refine ⟨_, _, k3 _ ?_, hrun, hended, _, _, rfl, ?_, ⟨_, rfl⟩, hW, hsame.mono (by decide) (by decide)⟩
    · show Steps p.tables e below (T2.setTop (mkF m 8 #[.val (.ref a1), .val (.ref a2)] [(.int w_line_a2), (.int w_line_a1)])) _
      refine XS.icmpYes X2.here hx rfl (pc0 := 8) (pc' := 33) rfl (hb hby own_d9_8) rfl (tlt hc1).1 (by decide) (by decide) ?_
      show Steps p.tables e below (T2.setTop (mkF m 33 #[.val (.ref a1), .val (.ref a2)] [])) _
      refine XS.iconst X2.here hx rfl (hb hby own_d9_33) ?_
      show Steps p.tables e below (T2.setTop (mkF m 34 #[.val (.ref a1), .val (.ref a2)] [(.int (1 : Int32))])) _
      refine XS.goto X2.here hx rfl (pc0 := 34) (pc' := 38) rfl (hb hby own_d9_34) (by decide) (by decide) ?_
      show Steps p.tables e below (T2.setTop (mkF m 38 #[.val (.ref a1), .val (.ref a2)] [(.int (1 : Int32))])) _
      exact retN X2 hx (t := .boolean) Bd.returns (by simp) (hb hby own_d9_38) hr
    · show own_Q9 Z a1 a2 w_line_a1 w_line_a2 w_column_a1 w_column_a2 h0 n0 _ T2.heap _
      rw [e2]
      exact ⟨(by rw [own_f9, if_pos hc1]), N0, rfl⟩
  ·
    obtain ⟨T4, X4, e4, st4⟩ := getF X2 hx hZ hown (host := "") (Or.inl (hw _ (List.mem_of_getElem? (i := 47) rfl))) Via.refl e2 F_line_a1 (g := (mkF m 12 #[.val (.ref a1), .val (.ref a2)] [(.ref a1)])) rfl rfl (hb hby own_d9_12)
    obtain ⟨T5, X5, e5, st5⟩ := getF X4 hx hZ hown (host := "") (Or.inl (hw _ (List.mem_of_getElem? (i := 47) rfl))) Via.refl e4 F_line_a2 (g := (mkF m 16 #[.val (.ref a1), .val (.ref a2)] [(.ref a2), (.int w_line_a1)])) rfl rfl (hb hby own_d9_16)
    have k6 : ∀ t, Steps p.tables e below (T5.setTop (mkF m 19 #[.val (.ref a1), .val (.ref a2)] [(.int w_line_a2), (.int w_line_a1)])) t → Steps p.tables e below (s₁.setTop (entryFrame m #[(.ref a1), (.ref a2)] 2)) t := by
      intro t kt
      refine k3 t ?_
      show Steps p.tables e below (T2.setTop (mkF m 8 #[.val (.ref a1), .val (.ref a2)] [(.int w_line_a2), (.int w_line_a1)])) _
      refine XS.icmpNo X2.here hx rfl (hb hby own_d9_8) rfl (flt hc1).1 ?_
      show Steps p.tables e below (T2.setTop (mkF m 11 #[.val (.ref a1), .val (.ref a2)] [])) _
      refine XS.aloadN X2.here hx rfl (hb hby own_d9_11) rfl rfl ?_
      show Steps p.tables e below (T2.setTop (mkF m 12 #[.val (.ref a1), .val (.ref a2)] [(.ref a1)])) _
      refine st4 _ ?_
      show Steps p.tables e below (T4.setTop (mkF m 15 #[.val (.ref a1), .val (.ref a2)] [(.int w_line_a1)])) _
      refine XS.aloadN X4.here hx rfl (hb hby own_d9_15) rfl rfl ?_
      show Steps p.tables e below (T4.setTop (mkF m 16 #[.val (.ref a1), .val (.ref a2)] [(.ref a2), (.int w_line_a1)])) _
      refine st5 _ ?_
      exact kt
    by_cases hc2 : w_line_a1 = w_line_a2
    ·
      obtain ⟨T7, X7, e7, st7⟩ := getF X5 hx hZ hown (host := "") (Or.inl (hw _ (List.mem_of_getElem? (i := 49) rfl))) Via.refl e5 F_column_a1 (g := (mkF m 23 #[.val (.ref a1), .val (.ref a2)] [(.ref a1)])) rfl rfl (hb hby own_d9_23)
      obtain ⟨T8, X8, e8, st8⟩ := getF X7 hx hZ hown (host := "") (Or.inl (hw _ (List.mem_of_getElem? (i := 49) rfl))) Via.refl e7 F_column_a2 (g := (mkF m 27 #[.val (.ref a1), .val (.ref a2)] [(.ref a2), (.int w_column_a1)])) rfl rfl (hb hby own_d9_27)
      have k9 : ∀ t, Steps p.tables e below (T8.setTop (mkF m 30 #[.val (.ref a1), .val (.ref a2)] [(.int w_column_a2), (.int w_column_a1)])) t → Steps p.tables e below (s₁.setTop (entryFrame m #[(.ref a1), (.ref a2)] 2)) t := by
        intro t kt
        refine k6 t ?_
        show Steps p.tables e below (T5.setTop (mkF m 19 #[.val (.ref a1), .val (.ref a2)] [(.int w_line_a2), (.int w_line_a1)])) _
        refine XS.icmpNo X5.here hx rfl (hb hby own_d9_19) rfl (teq hc2).2 ?_
        show Steps p.tables e below (T5.setTop (mkF m 22 #[.val (.ref a1), .val (.ref a2)] [])) _
        refine XS.aloadN X5.here hx rfl (hb hby own_d9_22) rfl rfl ?_
        show Steps p.tables e below (T5.setTop (mkF m 23 #[.val (.ref a1), .val (.ref a2)] [(.ref a1)])) _
        refine st7 _ ?_
        show Steps p.tables e below (T7.setTop (mkF m 26 #[.val (.ref a1), .val (.ref a2)] [(.int w_column_a1)])) _
        refine XS.aloadN X7.here hx rfl (hb hby own_d9_26) rfl rfl ?_
        show Steps p.tables e below (T7.setTop (mkF m 27 #[.val (.ref a1), .val (.ref a2)] [(.ref a2), (.int w_column_a1)])) _
        refine st8 _ ?_
        exact kt
      by_cases hc3 : w_column_a1 < w_column_a2
      ·
        obtain ⟨fs, hr, hrun, hended, hW, hsame⟩ := X8.leave (hlocks := hlk) (v := some (.int (1 : Int32))) (fun h => by rw [Bd.returns] at h; cases h)
        refine ⟨_, _, k9 _ ?_, hrun, hended, _, _, rfl, ?_, ⟨_, rfl⟩, hW, hsame.mono (by decide) (by decide)⟩
        · show Steps p.tables e below (T8.setTop (mkF m 30 #[.val (.ref a1), .val (.ref a2)] [(.int w_column_a2), (.int w_column_a1)])) _
          refine XS.icmpNo X8.here hx rfl (hb hby own_d9_30) rfl (tlt hc3).2.1 ?_
          show Steps p.tables e below (T8.setTop (mkF m 33 #[.val (.ref a1), .val (.ref a2)] [])) _
          refine XS.iconst X8.here hx rfl (hb hby own_d9_33) ?_
          show Steps p.tables e below (T8.setTop (mkF m 34 #[.val (.ref a1), .val (.ref a2)] [(.int (1 : Int32))])) _
          refine XS.goto X8.here hx rfl (pc0 := 34) (pc' := 38) rfl (hb hby own_d9_34) (by decide) (by decide) ?_
          show Steps p.tables e below (T8.setTop (mkF m 38 #[.val (.ref a1), .val (.ref a2)] [(.int (1 : Int32))])) _
          exact retN X8 hx (t := .boolean) Bd.returns (by simp) (hb hby own_d9_38) hr
        · show own_Q9 Z a1 a2 w_line_a1 w_line_a2 w_column_a1 w_column_a2 h0 n0 _ T8.heap _
          rw [e8]
          exact ⟨(by rw [own_f9, if_neg hc1, if_pos hc2, if_pos hc3]), N0, rfl⟩
      ·
        obtain ⟨fs, hr, hrun, hended, hW, hsame⟩ := X8.leave (hlocks := hlk) (v := some (.int (0 : Int32))) (fun h => by rw [Bd.returns] at h; cases h)
        refine ⟨_, _, k9 _ ?_, hrun, hended, _, _, rfl, ?_, ⟨_, rfl⟩, hW, hsame.mono (by decide) (by decide)⟩
        · show Steps p.tables e below (T8.setTop (mkF m 30 #[.val (.ref a1), .val (.ref a2)] [(.int w_column_a2), (.int w_column_a1)])) _
          refine XS.icmpYes X8.here hx rfl (pc0 := 30) (pc' := 37) rfl (hb hby own_d9_30) rfl (flt hc3).2.1 (by decide) (by decide) ?_
          show Steps p.tables e below (T8.setTop (mkF m 37 #[.val (.ref a1), .val (.ref a2)] [])) _
          refine XS.iconst X8.here hx rfl (hb hby own_d9_37) ?_
          show Steps p.tables e below (T8.setTop (mkF m 38 #[.val (.ref a1), .val (.ref a2)] [(.int (0 : Int32))])) _
          exact retN X8 hx (t := .boolean) Bd.returns (by simp) (hb hby own_d9_38) hr
        · show own_Q9 Z a1 a2 w_line_a1 w_line_a2 w_column_a1 w_column_a2 h0 n0 _ T8.heap _
          rw [e8]
          exact ⟨(by rw [own_f9, if_neg hc1, if_pos hc2, if_neg hc3]), N0, rfl⟩
    ·
      obtain ⟨fs, hr, hrun, hended, hW, hsame⟩ := X5.leave (hlocks := hlk) (v := some (.int (0 : Int32))) (fun h => by rw [Bd.returns] at h; cases h)
      refine ⟨_, _, k6 _ ?_, hrun, hended, _, _, rfl, ?_, ⟨_, rfl⟩, hW, hsame.mono (by decide) (by decide)⟩
      · show Steps p.tables e below (T5.setTop (mkF m 19 #[.val (.ref a1), .val (.ref a2)] [(.int w_line_a2), (.int w_line_a1)])) _
        refine XS.icmpYes X5.here hx rfl (pc0 := 19) (pc' := 37) rfl (hb hby own_d9_19) rfl (feq hc2).2 (by decide) (by decide) ?_
        show Steps p.tables e below (T5.setTop (mkF m 37 #[.val (.ref a1), .val (.ref a2)] [])) _
        refine XS.iconst X5.here hx rfl (hb hby own_d9_37) ?_
        show Steps p.tables e below (T5.setTop (mkF m 38 #[.val (.ref a1), .val (.ref a2)] [(.int (0 : Int32))])) _
        exact retN X5 hx (t := .boolean) Bd.returns (by simp) (hb hby own_d9_38) hr
      · show own_Q9 Z a1 a2 w_line_a1 w_line_a2 w_column_a1 w_column_a2 h0 n0 _ T5.heap _
        rw [e5]
        exact ⟨(by rw [own_f9, if_neg hc1, if_neg hc2]), N0, rfl⟩
-- body 10
theorem own_d10_0 : decode method_2_code 0 = .ok (.iload_n 0, 1) := by decide +kernel
theorem own_d10_1 : decode method_2_code 1 = .ok (.i2l, 1) := by decide +kernel
theorem own_d10_2 : decode method_2_code 2 = .ok (.bipush 32, 2) := by decide +kernel
theorem own_d10_4 : decode method_2_code 4 = .ok (.lshl, 1) := by decide +kernel
theorem own_d10_5 : decode method_2_code 5 = .ok (.iload_n 1, 1) := by decide +kernel
theorem own_d10_6 : decode method_2_code 6 = .ok (.i2l, 1) := by decide +kernel
theorem own_d10_7 : decode method_2_code 7 = .ok (.ldc2_w 7, 3) := by decide +kernel
theorem own_d10_10 : decode method_2_code 10 = .ok (.ladd, 1) := by decide +kernel
theorem own_d10_11 : decode method_2_code 11 = .ok (.ladd, 1) := by decide +kernel
theorem own_d10_12 : decode method_2_code 12 = .ok (.lreturn, 1) := by decide +kernel
theorem own_ef10 (m : MethodId) (x0 : Int32) (x1 : Int32) : entryFrame m #[(.int x0), (.int x1)] 2 = mkF m 0 #[.val (.int x0), .val (.int x1)] [] := by first | (simp [entryFrame, mkF, argsToLocals, Value.category]; done) | rfl
def own_f10 (p1 : Int32) (p2 : Int32) : Int64 := (((p1.toInt64) <<< ((32 : Int32) &&& 0x3f).toInt64) + ((p2.toInt64) + (2147483648 : Int64)))
def own_Q10 (Z : State) (p1 : Int32) (p2 : Int32) (h0 : Heap) (n0 : Nat) (v : Option Value) (h : Heap) (L : List Loc) : Prop := v = some (.long (own_f10 p1 p2)) ∧ Fr n0 L ∧ h = h0
set_option maxRecDepth 65536 in
set_option maxHeartbeats 40000000 in
theorem own_rm10 (l : Launch) (Z : State) (a0 : Array Value) (hw : ∀ d ∈ tables_1, d.before a0 Z = true) (ws : List Jvm.Cond) (p1 : Int32) (p2 : Int32) (h0 : Heap) (n0 : Nat) (Z0 : n0 ≤ h0.size) :
    MetFree l (⟨"com/example/edgbaston/edgbaston/source/LocationIsBeforePinLaw", "key", "(II)J"⟩ : MethodName) (head1 (Jvm.Cond.code (⟨"com/example/edgbaston/edgbaston/source/LocationIsBeforePinLaw", "key", "(II)J"⟩ : MethodName) method_2_code 2 (some .long) :: ws) ({ frames := 0, cells := 0, slots := 0, locals := 0 } : Room)) (fun a U => a = #[(.int p1), (.int p2)] ∧ Z.Warmed39 U.vm ∧ U.heap = h0) (fun _ _ _ _ _ => True) (fun _ U o U' => ∃ v L, o = .returned v ∧ own_Q10 Z p1 p2 h0 n0 v U'.heap L ∧ FrameEnd U o U' L ({ frames := 0, cells := 0, slots := 0, locals := 0 } : Room).cells ({ frames := 0, cells := 0, slots := 0, locals := 0 } : Room).slots) := by
  refine MetFree.of_bodySF (plainFor_of_name own_pn91) hisR ?_
  intro p e s m args below meth c s₁ Bd hml0 hP hK
  obtain ⟨rfl, hZ, hh⟩ := hP
  have hx := Bd.exec
  have hby := Bd.bytes
  have hml : c.maxLocals = 2 := hml0
  have hown : s.vm.findClass "com/example/edgbaston/edgbaston/source/LocationIsBeforePinLaw" = some m.cls := findClass_of_methodNamed Bd.named
  have hnm := (name_of_methodNamed Bd.named Bd.method).1
  have X0 : Stand p l e ({ frames := 0, cells := 0, slots := 0, locals := 0 } : Room) s m #[(.int p1), (.int p2)] below meth c s₁ [] 0 0 := Stand.of_body Bd
  have hS0 : s.Since s.vm 0 := (State.WarmedH.refl s).since 0
  have hk0 : 0 ≤ h0.size := Nat.zero_le _
  have hlk := Bd.notSynchronized
  have e0 : s₁.heap = h0 := by rw [← hh, Bd.state]; rfl
  have N0 := Fr.nil n0
  have pre0 : ∀ t, Steps p.tables e below (s₁.setTop (mkF m 0 #[.val (.int p1), .val (.int p2)] [])) t → Steps p.tables e below (s₁.setTop (entryFrame m #[(.int p1), (.int p2)] 2)) t := fun t k => castTop (own_ef10 m p1 p2) k
  obtain ⟨fs, hr, hrun, hended, hW, hsame⟩ := X0.leave (hlocks := hlk) (v := some (.long (((p1.toInt64) <<< ((32 : Int32) &&& 0x3f).toInt64) + ((p2.toInt64) + (2147483648 : Int64))))) (fun h => by rw [Bd.returns] at h; cases h)
  refine ⟨_, _, pre0 _ ?_, hrun, hended, _, _, rfl, ?_, ⟨_, rfl⟩, hW, hsame.mono (by decide) (by decide)⟩
  · show Steps p.tables e below (s₁.setTop (mkF m 0 #[.val (.int p1), .val (.int p2)] [])) _
    refine XS.iloadN X0.here hx rfl (hb hby own_d10_0) rfl ?_
    show Steps p.tables e below (s₁.setTop (mkF m 1 #[.val (.int p1), .val (.int p2)] [(.int p1)])) _
    refine XS.i2l X0.here hx rfl (hb hby own_d10_1) rfl ?_
    show Steps p.tables e below (s₁.setTop (mkF m 2 #[.val (.int p1), .val (.int p2)] [(.long (p1.toInt64))])) _
    refine XS.bipush X0.here hx rfl (hb hby own_d10_2) ?_
    show Steps p.tables e below (s₁.setTop (mkF m 4 #[.val (.int p1), .val (.int p2)] [(.int (32 : Int32)), (.long (p1.toInt64))])) _
    refine XS.lshl X0.here hx rfl (hb hby own_d10_4) rfl ?_
    show Steps p.tables e below (s₁.setTop (mkF m 5 #[.val (.int p1), .val (.int p2)] [(.long ((p1.toInt64) <<< ((32 : Int32) &&& 0x3f).toInt64))])) _
    refine XS.iloadN X0.here hx rfl (hb hby own_d10_5) rfl ?_
    show Steps p.tables e below (s₁.setTop (mkF m 6 #[.val (.int p1), .val (.int p2)] [(.int p2), (.long ((p1.toInt64) <<< ((32 : Int32) &&& 0x3f).toInt64))])) _
    refine XS.i2l X0.here hx rfl (hb hby own_d10_6) rfl ?_
    show Steps p.tables e below (s₁.setTop (mkF m 7 #[.val (.int p1), .val (.int p2)] [(.long (p2.toInt64)), (.long ((p1.toInt64) <<< ((32 : Int32) &&& 0x3f).toInt64))])) _
    refine X0.ldc2Long hx hown (mvT hZ (hw _ (List.mem_of_getElem? (i := 60) rfl))) (g := (mkF m 7 #[.val (.int p1), .val (.int p2)] [(.long (p2.toInt64)), (.long ((p1.toInt64) <<< ((32 : Int32) &&& 0x3f).toInt64))])) rfl (hb hby own_d10_7) _ ?_
    show Steps p.tables e below (s₁.setTop (mkF m 10 #[.val (.int p1), .val (.int p2)] [(.long (2147483648 : Int64)), (.long (p2.toInt64)), (.long ((p1.toInt64) <<< ((32 : Int32) &&& 0x3f).toInt64))])) _
    refine XS.ladd X0.here hx rfl (hb hby own_d10_10) rfl ?_
    show Steps p.tables e below (s₁.setTop (mkF m 11 #[.val (.int p1), .val (.int p2)] [(.long ((p2.toInt64) + (2147483648 : Int64))), (.long ((p1.toInt64) <<< ((32 : Int32) &&& 0x3f).toInt64))])) _
    refine XS.ladd X0.here hx rfl (hb hby own_d10_11) rfl ?_
    show Steps p.tables e below (s₁.setTop (mkF m 12 #[.val (.int p1), .val (.int p2)] [(.long (((p1.toInt64) <<< ((32 : Int32) &&& 0x3f).toInt64) + ((p2.toInt64) + (2147483648 : Int64))))])) _
    exact X0.lreturnOut hx Bd.returns (hb hby own_d10_12) hr
  · show own_Q10 Z p1 p2 h0 n0 _ s₁.heap _
    rw [e0]
    exact ⟨(by rw [own_f10]), N0, rfl⟩
-- body 0
theorem own_ef0 (m : MethodId) (x0 : Int32) (x1 : Int32) (x2 : Int32) (x3 : Int32) (x4 : Int32) (x5 : Int32) : entryFrame m #[(.int x0), (.int x1), (.int x2), (.int x3), (.int x4), (.int x5)] maxLocals = mkF m 0 #[.val (.int x0), .val (.int x1), .val (.int x2), .val (.int x3), .val (.int x4), .val (.int x5), .unset, .unset, .unset, .unset, .unset, .unset, .unset, .unset, .unset, .unset, .unset, .unset] [] := by first | (simp [entryFrame, mkF, argsToLocals, Value.category, maxLocals]; done) | rfl
def own_f0 (p1 : Int32) (p2 : Int32) (p3 : Int32) (p4 : Int32) (p5 : Int32) : Int32 := if (p5 &&& (1 : Int32)) = (0 : Int32) then (if (p5 &&& (2 : Int32)) = (0 : Int32) then (if (lcmpW (own_f10 p1 p2) (own_f10 p3 p4)) < (0 : Int32) then (if (own_f9 p1 p3 p2 p4) = (1 : Int32) then (if (lcmpW (own_f10 p3 p4) (own_f10 p1 p2)) < (0 : Int32) then (if (own_f9 p3 p1 p4 p2) = (1 : Int32) then (1 : Int32)
              else (0 : Int32))
            else if (own_f9 p3 p1 p4 p2) = (0 : Int32) then (1 : Int32)
              else (0 : Int32))
          else (0 : Int32))
        else if (own_f9 p1 p3 p2 p4) = (0 : Int32) then (if (lcmpW (own_f10 p3 p4) (own_f10 p1 p2)) < (0 : Int32) then (if (own_f9 p3 p1 p4 p2) = (1 : Int32) then (1 : Int32)
              else (0 : Int32))
            else if (own_f9 p3 p1 p4 p2) = (0 : Int32) then (1 : Int32)
              else (0 : Int32))
          else (0 : Int32))
      else if (lcmpW (own_f10 p1 p2) (own_f10 p3 p2)) < (0 : Int32) then (if (own_f9 p1 p3 p2 p2) = (1 : Int32) then (if (lcmpW (own_f10 p3 p2) (own_f10 p1 p2)) < (0 : Int32) then (if (own_f9 p3 p1 p2 p2) = (1 : Int32) then (1 : Int32)
              else (0 : Int32))
            else if (own_f9 p3 p1 p2 p2) = (0 : Int32) then (1 : Int32)
              else (0 : Int32))
          else (0 : Int32))
        else if (own_f9 p1 p3 p2 p2) = (0 : Int32) then (if (lcmpW (own_f10 p3 p2) (own_f10 p1 p2)) < (0 : Int32) then (if (own_f9 p3 p1 p2 p2) = (1 : Int32) then (1 : Int32)
              else (0 : Int32))
            else if (own_f9 p3 p1 p2 p2) = (0 : Int32) then (1 : Int32)
              else (0 : Int32))
          else (0 : Int32))
    else if (p5 &&& (2 : Int32)) = (0 : Int32) then (if (lcmpW (own_f10 p1 p2) (own_f10 p1 p4)) < (0 : Int32) then (if (own_f9 p1 p1 p2 p4) = (1 : Int32) then (if (lcmpW (own_f10 p1 p4) (own_f10 p1 p2)) < (0 : Int32) then (if (own_f9 p1 p1 p4 p2) = (1 : Int32) then (1 : Int32)
              else (0 : Int32))
            else if (own_f9 p1 p1 p4 p2) = (0 : Int32) then (1 : Int32)
              else (0 : Int32))
          else (0 : Int32))
        else if (own_f9 p1 p1 p2 p4) = (0 : Int32) then (if (lcmpW (own_f10 p1 p4) (own_f10 p1 p2)) < (0 : Int32) then (if (own_f9 p1 p1 p4 p2) = (1 : Int32) then (1 : Int32)
              else (0 : Int32))
            else if (own_f9 p1 p1 p4 p2) = (0 : Int32) then (1 : Int32)
              else (0 : Int32))
          else (0 : Int32))
      else if (lcmpW (own_f10 p1 p2) (own_f10 p1 p2)) < (0 : Int32) then (if (own_f9 p1 p1 p2 p2) = (1 : Int32) then (1 : Int32)
          else (0 : Int32))
        else if (own_f9 p1 p1 p2 p2) = (0 : Int32) then (1 : Int32)
          else (0 : Int32)
def own_Q0 (Z : State) (p1 : Int32) (p2 : Int32) (p3 : Int32) (p4 : Int32) (p5 : Int32) (p6 : Int32) (w_COMPACT_STRINGS : Int32) (h0 : Heap) (n0 : Nat) (v : Option Value) (h : Heap) (L : List Loc) : Prop := v = some (.int (own_f0 p1 p2 p3 p4 p5)) ∧ Fr n0 L
set_option maxRecDepth 65536 in
set_option maxHeartbeats 40000000 in
theorem own_rm0 (l : Launch) (Z : State) (a0 : Array Value) (hw : ∀ d ∈ tables_1, d.before a0 Z = true) (ws : List Jvm.Cond) (p1 : Int32) (p2 : Int32) (p3 : Int32) (p4 : Int32) (p5 : Int32) (p6 : Int32) (w_COMPACT_STRINGS : Int32) (h0 : Heap) (n0 : Nat) (Z0 : n0 ≤ h0.size) (hcs : ¬ w_COMPACT_STRINGS = (0 : Int32)) (S_COMPACT_STRINGS : Sta Z h0 "java/lang/String" "COMPACT_STRINGS" "Z" (.int w_COMPACT_STRINGS)) :
    MetFree l x (head1 (Jvm.Cond.code x code maxLocals ret :: ws) room_1) (fun a U => a = #[(.int p1), (.int p2), (.int p3), (.int p4), (.int p5), (.int p6)] ∧ Z.Warmed39 U.vm ∧ U.heap = h0) (fun _ _ _ _ _ => True) (fun _ U o U' => ∃ v L, o = .returned v ∧ own_Q0 Z p1 p2 p3 p4 p5 p6 w_COMPACT_STRINGS h0 n0 v U'.heap L ∧ ReturnedEndW U o U' L room_1.cells room_1.slots) := by
  refine MetFree.of_bodySF (plainFor_of_name own_pn91) hisR ?_
  intro p e s m args below meth c s₁ Bd hml0 hP hK
  obtain ⟨rfl, hZ, hh⟩ := hP
  have hx := Bd.exec
  have hby := Bd.bytes
  have hml : c.maxLocals = 18 := hml0
  have hown : s.vm.findClass "com/example/edgbaston/edgbaston/source/LocationIsBeforePinLaw" = some m.cls := findClass_of_methodNamed Bd.named
  have hnm := (name_of_methodNamed Bd.named Bd.method).1
  have X0 : Stand p l e room_1 (s.setVm s.vm) m #[(.int p1), (.int p2), (.int p3), (.int p4), (.int p5), (.int p6)] below meth c s₁ [] 0 0 := Stand.of_body Bd
  have hS0 : s.Since s.vm 0 := (State.WarmedH.refl s).since 0
  have hk0 : 0 ≤ h0.size := Nat.zero_le _
  have hlk := Bd.notSynchronized
  have e0 : s₁.heap = h0 := by rw [← hh, Bd.state]; rfl
  have N0 := Fr.nil n0
  have pre0 : ∀ t, Steps p.tables e below (s₁.setTop (mkF m 0 #[.val (.int p1), .val (.int p2), .val (.int p3), .val (.int p4), .val (.int p5), .val (.int p6), .unset, .unset, .unset, .unset, .unset, .unset, .unset, .unset, .unset, .unset, .unset, .unset] [])) t → Steps p.tables e below (s₁.setTop (entryFrame m #[(.int p1), (.int p2), (.int p3), (.int p4), (.int p5), (.int p6)] maxLocals)) t := fun t k => castTop (own_ef0 m p1 p2 p3 p4 p5 p6) k
  have k1 : ∀ t, Steps p.tables e below (s₁.setTop (mkF m 4 #[.val (.int p1), .val (.int p2), .val (.int p3), .val (.int p4), .val (.int p5), .val (.int p6), .unset, .unset, .unset, .unset, .unset, .unset, .unset, .unset, .unset, .unset, .unset, .unset] [(.int (p5 &&& (1 : Int32)))])) t → Steps p.tables e below (s₁.setTop (entryFrame m #[(.int p1), (.int p2), (.int p3), (.int p4), (.int p5), (.int p6)] maxLocals)) t := by
    intro t kt
    refine pre0 t ?_
    show Steps p.tables e below (s₁.setTop (mkF m 0 #[.val (.int p1), .val (.int p2), .val (.int p3), .val (.int p4), .val (.int p5), .val (.int p6), .unset, .unset, .unset, .unset, .unset, .unset, .unset, .unset, .unset, .unset, .unset, .unset] [])) _
    refine XS.iload X0.here hx rfl (hb hby at_0) rfl ?_
    show Steps p.tables e below (s₁.setTop (mkF m 2 #[.val (.int p1), .val (.int p2), .val (.int p3), .val (.int p4), .val (.int p5), .val (.int p6), .unset, .unset, .unset, .unset, .unset, .unset, .unset, .unset, .unset, .unset, .unset, .unset] [(.int p5)])) _
    refine XS.iconst X0.here hx rfl (hb hby at_2) ?_
    show Steps p.tables e below (s₁.setTop (mkF m 3 #[.val (.int p1), .val (.int p2), .val (.int p3), .val (.int p4), .val (.int p5), .val (.int p6), .unset, .unset, .unset, .unset, .unset, .unset, .unset, .unset, .unset, .unset, .unset, .unset] [(.int (1 : Int32)), (.int p5)])) _
    refine XS.iand X0.here hx rfl (hb hby at_3) rfl ?_
    exact kt
  by_cases hc1 : (p5 &&& (1 : Int32)) = (0 : Int32)
  ·
    have k2 : ∀ t, Steps p.tables e below (s₁.setTop (mkF m 18 #[.val (.int p1), .val (.int p2), .val (.int p3), .val (.int p4), .val (.int p5), .val (.int p6), .val (.int p3), .unset, .unset, .unset, .unset, .unset, .unset, .unset, .unset, .unset, .unset, .unset] [(.int (p5 &&& (2 : Int32)))])) t → Steps p.tables e below (s₁.setTop (entryFrame m #[(.int p1), (.int p2), (.int p3), (.int p4), (.int p5), (.int p6)] maxLocals)) t := by
      intro t kt
      refine k1 t ?_
      show Steps p.tables e below (s₁.setTop (mkF m 4 #[.val (.int p1), .val (.int p2), .val (.int p3), .val (.int p4), .val (.int p5), .val (.int p6), .unset, .unset, .unset, .unset, .unset, .unset, .unset, .unset, .unset, .unset, .unset, .unset] [(.int (p5 &&& (1 : Int32)))])) _
      refine XS.ifYes X0.here hx rfl (pc0 := 4) (pc' := 11) rfl (hb hby at_4) rfl ((if0 _ _).trans (teq hc1).1) (by decide) (by decide) ?_
      show Steps p.tables e below (s₁.setTop (mkF m 11 #[.val (.int p1), .val (.int p2), .val (.int p3), .val (.int p4), .val (.int p5), .val (.int p6), .unset, .unset, .unset, .unset, .unset, .unset, .unset, .unset, .unset, .unset, .unset, .unset] [])) _
      refine XS.iloadN X0.here hx rfl (hb hby at_11) rfl ?_
      show Steps p.tables e below (s₁.setTop (mkF m 12 #[.val (.int p1), .val (.int p2), .val (.int p3), .val (.int p4), .val (.int p5), .val (.int p6), .unset, .unset, .unset, .unset, .unset, .unset, .unset, .unset, .unset, .unset, .unset, .unset] [(.int p3)])) _
      refine XS.istore X0.here hx rfl (hb hby at_12) rfl (l' := #[.val (.int p1), .val (.int p2), .val (.int p3), .val (.int p4), .val (.int p5), .val (.int p6), .val (.int p3), .unset, .unset, .unset, .unset, .unset, .unset, .unset, .unset, .unset, .unset, .unset]) rfl ?_
      show Steps p.tables e below (s₁.setTop (mkF m 14 #[.val (.int p1), .val (.int p2), .val (.int p3), .val (.int p4), .val (.int p5), .val (.int p6), .val (.int p3), .unset, .unset, .unset, .unset, .unset, .unset, .unset, .unset, .unset, .unset, .unset] [])) _
      refine XS.iload X0.here hx rfl (hb hby at_14) rfl ?_
      show Steps p.tables e below (s₁.setTop (mkF m 16 #[.val (.int p1), .val (.int p2), .val (.int p3), .val (.int p4), .val (.int p5), .val (.int p6), .val (.int p3), .unset, .unset, .unset, .unset, .unset, .unset, .unset, .unset, .unset, .unset, .unset] [(.int p5)])) _
      refine XS.iconst X0.here hx rfl (hb hby at_16) ?_
      show Steps p.tables e below (s₁.setTop (mkF m 17 #[.val (.int p1), .val (.int p2), .val (.int p3), .val (.int p4), .val (.int p5), .val (.int p6), .val (.int p3), .unset, .unset, .unset, .unset, .unset, .unset, .unset, .unset, .unset, .unset, .unset] [(.int (2 : Int32)), (.int p5)])) _
      refine XS.iand X0.here hx rfl (hb hby at_17) rfl ?_
      exact kt
    by_cases hc2 : (p5 &&& (2 : Int32)) = (0 : Int32)
    ·
      obtain ⟨v3, _, ⟨T3, L3, k3, n3⟩, -, X3, ⟨Lc3, hQ3, l3, y3, z3⟩, st3⟩ := Jvm.LawKit.callS X0 hx (y := (⟨"java/lang/String", "valueOf", "(C)Ljava/lang/String;"⟩ : MethodName)) hown (mvT hZ (hw _ (List.mem_of_getElem? (i := 0) rfl))) (mvT hZ (hw _ (List.mem_of_getElem? (i := 1) rfl))) (mvT hZ (hw _ (List.mem_of_getElem? (i := 2) rfl))) (mvT hZ (hw _ (List.mem_of_getElem? (i := 3) rfl))) (by decide) (backOf (W := 0) (own_rm1 l Z a0 hw [] ((p6 &&& (255 : Int32)).toUInt32.toUInt16.toUInt32.toInt32) w_COMPACT_STRINGS h0 n0 Z0 hcs (own_lt255 _) S_COMPACT_STRINGS) hZ (hw _ (List.mem_of_getElem? (i := 3) rfl)) (hw _ (List.mem_of_getElem? (i := 2) rfl)) (by decide) (by decide)) (g := (mkF m 35 #[.val (.int p1), .val (.int p2), .val (.int p3), .val (.int p4), .val (.int p5), .val (.int p6), .val (.int p3), .val (.int p4), .unset, .unset, .unset, .unset, .unset, .unset, .unset, .unset, .unset, .unset] [(.int ((p6 &&& (255 : Int32)).toUInt32.toUInt16.toUInt32.toInt32))])) rfl (by rw [hml]; rfl) (argsL := [(.int ((p6 &&& (255 : Int32)).toUInt32.toUInt16.toUInt32.toInt32))]) (rest := []) (lenOf own_pd102 rfl) rfl (by show 2 * 0 + _ ≤ _; exact Nat.le_of_eq rfl) (hb hby at_35) (fun _ _ => ⟨rfl, e0, (by decide : 0 + 2 ≤ _), (by decide : 0 + 5 ≤ _)⟩)
      dsimp only [Pt.U, Pt.locs, Pt.cells, Pt.slots] at X3 l3 y3 z3 st3 hQ3
      subst l3 y3 z3
      obtain ⟨r3, rfl, N3q, K3, hr3, Q3_0, Q3_1⟩ := hQ3
      have g_r3 : n0 ≤ r3 := Nat.le_trans Z0 hr3
      have f4 := own_staKeep S_COMPACT_STRINGS K3
      have Z5 := Nat.le_trans Z0 K3.1
      have hk6 := Nat.le_trans hk0 K3.1
      have N7 := Fr.app N0 N3q
      obtain ⟨v8, _, ⟨T8, L8, k8, n8⟩, -, X8, ⟨Lc8, hQ8, l8, y8, z8⟩, st8⟩ := Jvm.LawKit.callS X3 hx (y := (⟨"java/lang/String", "valueOf", "(C)Ljava/lang/String;"⟩ : MethodName)) hown (mvT hZ (hw _ (List.mem_of_getElem? (i := 0) rfl))) (mvT hZ (hw _ (List.mem_of_getElem? (i := 1) rfl))) (mvT hZ (hw _ (List.mem_of_getElem? (i := 2) rfl))) (mvT hZ (hw _ (List.mem_of_getElem? (i := 3) rfl))) (by decide) (backOf (W := 0) (own_rm1 l Z a0 hw [] ((((p6.toUInt32 >>> ((8 : Int32) &&& 31).toUInt32).toInt32) &&& (255 : Int32)).toUInt32.toUInt16.toUInt32.toInt32) w_COMPACT_STRINGS T3.heap n0 Z5 hcs (own_lt255 _) f4) hZ (hw _ (List.mem_of_getElem? (i := 3) rfl)) (hw _ (List.mem_of_getElem? (i := 2) rfl)) (by decide) (by decide)) (g := (mkF m 50 #[.val (.int p1), .val (.int p2), .val (.int p3), .val (.int p4), .val (.int p5), .val (.int p6), .val (.int p3), .val (.int p4), .val (.ref r3), .unset, .unset, .unset, .unset, .unset, .unset, .unset, .unset, .unset] [(.int ((((p6.toUInt32 >>> ((8 : Int32) &&& 31).toUInt32).toInt32) &&& (255 : Int32)).toUInt32.toUInt16.toUInt32.toInt32))])) rfl (by rw [hml]; rfl) (argsL := [(.int ((((p6.toUInt32 >>> ((8 : Int32) &&& 31).toUInt32).toInt32) &&& (255 : Int32)).toUInt32.toUInt16.toUInt32.toInt32))]) (rest := []) (lenOf own_pd102 rfl) rfl (by show 2 * 0 + _ ≤ _; exact Nat.le_of_eq rfl) (hb hby at_50) (fun _ _ => ⟨rfl, rfl, (by decide : 2 + 2 ≤ _), (by decide : 5 + 5 ≤ _)⟩)
      dsimp only [Pt.U, Pt.locs, Pt.cells, Pt.slots] at X8 l8 y8 z8 st8 hQ8
      subst l8 y8 z8
      obtain ⟨r8, rfl, N8q, K8, hr8, Q8_0, Q8_1⟩ := hQ8
      have ne_r3_r8 : r3 ≠ r8 := Nat.ne_of_lt (Nat.lt_of_lt_of_le Q3_0.lt hr8)
      have g_r8 : n0 ≤ r8 := Nat.le_trans Z5 hr8
      have f9 := own_staKeep f4 K8
      have f10 := Q3_0.keep K8
      have f11 := Q3_1.keep K8 nin0
      have Z12 := Nat.le_trans Z5 K8.1
      have hk13 := Nat.le_trans hk6 K8.1
      have N14 := Fr.app N7 N8q
      obtain ⟨T15, h15, X15, e15, E15, A15, D15, -, st15⟩ := newO X8 hx hZ hown (hw _ (List.mem_of_getElem? (i := 26) rfl)) (hw _ (List.mem_of_getElem? (i := 27) rfl)) (hw _ (List.mem_of_getElem? (i := 28) rfl)) rfl (g := (mkF m 55 #[.val (.int p1), .val (.int p2), .val (.int p3), .val (.int p4), .val (.int p5), .val (.int p6), .val (.int p3), .val (.int p4), .val (.ref r3), .val (.ref r8), .unset, .unset, .unset, .unset, .unset, .unset, .unset, .unset] [])) rfl (hb hby at_55) (by decide) (by decide)
      obtain ⟨b15, g15⟩ : ∃ z, z = T8.heap.size := ⟨_, rfl⟩
      rw [← g15] at A15 D15 st15
      have ne_r3_b15 : r3 ≠ b15 := Nat.ne_of_lt (Nat.lt_of_lt_of_le f10.lt (Nat.le_of_eq g15.symm))
      have ne_r8_b15 : r8 ≠ b15 := Nat.ne_of_lt (Nat.lt_of_lt_of_le Q8_0.lt (Nat.le_of_eq g15.symm))
      have g_b15 : n0 ≤ b15 := Nat.le_trans Z12 (Nat.le_of_eq g15.symm)
      have f16 := f9.ext E15
      have f17 := f10.ext E15
      have f18 := f11.ext E15
      have f19 := Q8_0.ext E15
      have f20 := Q8_1.ext E15
      have Z21 := Nat.le_trans Z12 E15.1
      have hk22 := Nat.le_trans hk13 E15.1
      have F_file_b15 : Fld Z h15 b15 "com/example/edgbaston/edgbaston/source/Location" "file" "Ljava/lang/String;" .null := D15 (Or.inr (hw _ (List.mem_of_getElem? (i := 46) rfl))) (ty := (.object "java/lang/String")) (by decide)
      have F_line_b15 : Fld Z h15 b15 "com/example/edgbaston/edgbaston/source/Location" "line" "I" (.int (0 : Int32)) := D15 (Or.inr (hw _ (List.mem_of_getElem? (i := 48) rfl))) (ty := .int) (by decide)
      have F_column_b15 : Fld Z h15 b15 "com/example/edgbaston/edgbaston/source/Location" "column" "I" (.int (0 : Int32)) := D15 (Or.inr (hw _ (List.mem_of_getElem? (i := 50) rfl))) (ty := .int) (by decide)
      obtain ⟨v23, _, ⟨T23, L23, k23, n23⟩, -, Y23, Si23, gr23, ⟨Lc23, hQ23, l23, y23, z23⟩, st23⟩ := X15.specialBackS hx (y := (⟨"com/example/edgbaston/edgbaston/source/Location", "<init>", "(Ljava/lang/String;II)V"⟩ : MethodName)) rfl hown (mvT hZ (hw _ (List.mem_of_getElem? (i := 29) rfl))) (mvT hZ (hw _ (List.mem_of_getElem? (i := 30) rfl))) (mvT hZ (hw _ (List.mem_of_getElem? (i := 31) rfl))) (by decide) (backOfS (W := 1) (own_rm6 l Z a0 hw [] b15 r3 p1 p2 .null (0 : Int32) (0 : Int32) h15 n0 Z21 A15 F_file_b15 g_b15 F_line_b15 F_column_b15) hZ (hw _ (List.mem_of_getElem? (i := 31) rfl)) (hw _ (List.mem_of_getElem? (i := 28) rfl)) (by decide) (by decide)) (g := (mkF m 63 #[.val (.int p1), .val (.int p2), .val (.int p3), .val (.int p4), .val (.int p5), .val (.int p6), .val (.int p3), .val (.int p4), .val (.ref r3), .val (.ref r8), .unset, .unset, .unset, .unset, .unset, .unset, .unset, .unset] [(.int p2), (.int p1), (.ref r3), (.ref b15), (.ref b15)])) rfl (by rw [hml]; rfl) (Steps.refl _) (a := b15) (argsL := [(.ref r3), (.int p1), (.int p2)]) (rest := [(.ref b15)]) (lenOf own_pd103 rfl) rfl (by show 2 * 0 + _ ≤ _; exact Nat.le_of_eq rfl) (hb hby at_63) (fun _ _ => ⟨rfl, e15, (by decide : 5 + 2 ≤ _), (by decide : 13 + 20 ≤ _)⟩)
      dsimp only [Pt.U, Pt.locs, Pt.cells, Pt.slots] at Y23 Si23 gr23 l23 y23 z23 st23 hQ23
      subst l23 y23 z23
      obtain ⟨X23, hS23, hZ23, hown23⟩ := rebS hS0 (by rw [e15]; exact hk22) Y23 Si23 gr23 hZ hown
      obtain ⟨rfl, N23q, K23, Q23_0, Q23_1, Q23_2, Q23_3⟩ := hQ23
      have f24 := own_staKeepE f16 K23 (allS ⟨_, A15⟩ all0)
      have f25 := f17.keep K23
      have f26 := f18.keep K23 (ninS ne_r3_b15 nin0)
      have f27 := f19.keep K23
      have f28 := f20.keep K23 (ninS ne_r8_b15 nin0)
      have f29 := A15.keep K23
      have Z33 := Nat.le_trans Z21 K23.1
      have hk34 := Nat.le_trans hk22 K23.1
      have N35 := Fr.app N14 N23q
      obtain ⟨T36, h36, X36, e36, E36, A36, D36, -, st36⟩ := newO X23 hx hZ23 hown23 (hw _ (List.mem_of_getElem? (i := 26) rfl)) (hw _ (List.mem_of_getElem? (i := 27) rfl)) (hw _ (List.mem_of_getElem? (i := 28) rfl)) rfl (g := (mkF m 68 #[.val (.int p1), .val (.int p2), .val (.int p3), .val (.int p4), .val (.int p5), .val (.int p6), .val (.int p3), .val (.int p4), .val (.ref r3), .val (.ref r8), .val (.ref b15), .unset, .unset, .unset, .unset, .unset, .unset, .unset] [])) rfl (hb hby at_68) (by decide) (by decide)
      obtain ⟨b36, g36⟩ : ∃ z, z = T23.heap.size := ⟨_, rfl⟩
      rw [← g36] at A36 D36 st36
      have ne_r3_b36 : r3 ≠ b36 := Nat.ne_of_lt (Nat.lt_of_lt_of_le f25.lt (Nat.le_of_eq g36.symm))
      have ne_r8_b36 : r8 ≠ b36 := Nat.ne_of_lt (Nat.lt_of_lt_of_le f27.lt (Nat.le_of_eq g36.symm))
      have ne_b15_b36 : b15 ≠ b36 := Nat.ne_of_lt (Nat.lt_of_lt_of_le Q23_0.lt (Nat.le_of_eq g36.symm))
      have g_b36 : n0 ≤ b36 := Nat.le_trans Z33 (Nat.le_of_eq g36.symm)
      have f37 := f24.ext E36
      have f38 := f25.ext E36
      have f39 := f26.ext E36
      have f40 := f27.ext E36
      have f41 := f28.ext E36
      have f42 := Q23_0.ext E36
      have f43 := Q23_1.ext E36
      have f44 := Q23_2.ext E36
      have f45 := Q23_3.ext E36
      have Z46 := Nat.le_trans Z33 E36.1
      have hk47 := Nat.le_trans (Nat.le_refl _) E36.1
      have F_file_b36 : Fld Z h36 b36 "com/example/edgbaston/edgbaston/source/Location" "file" "Ljava/lang/String;" .null := D36 (Or.inr (hw _ (List.mem_of_getElem? (i := 46) rfl))) (ty := (.object "java/lang/String")) (by decide)
      have F_line_b36 : Fld Z h36 b36 "com/example/edgbaston/edgbaston/source/Location" "line" "I" (.int (0 : Int32)) := D36 (Or.inr (hw _ (List.mem_of_getElem? (i := 48) rfl))) (ty := .int) (by decide)
      have F_column_b36 : Fld Z h36 b36 "com/example/edgbaston/edgbaston/source/Location" "column" "I" (.int (0 : Int32)) := D36 (Or.inr (hw _ (List.mem_of_getElem? (i := 50) rfl))) (ty := .int) (by decide)
      obtain ⟨v48, _, ⟨T48, L48, k48, n48⟩, -, Y48, Si48, gr48, ⟨Lc48, hQ48, l48, y48, z48⟩, st48⟩ := X36.specialBackS hx (y := (⟨"com/example/edgbaston/edgbaston/source/Location", "<init>", "(Ljava/lang/String;II)V"⟩ : MethodName)) rfl hown23 (mvT hZ23 (hw _ (List.mem_of_getElem? (i := 29) rfl))) (mvT hZ23 (hw _ (List.mem_of_getElem? (i := 30) rfl))) (mvT hZ23 (hw _ (List.mem_of_getElem? (i := 31) rfl))) (by decide) (backOfS (W := 1) (own_rm6 l Z a0 hw [] b36 r8 p3 p4 .null (0 : Int32) (0 : Int32) h36 n0 Z46 A36 F_file_b36 g_b36 F_line_b36 F_column_b36) hZ23 (hw _ (List.mem_of_getElem? (i := 31) rfl)) (hw _ (List.mem_of_getElem? (i := 28) rfl)) (by decide) (by decide)) (g := (mkF m 78 #[.val (.int p1), .val (.int p2), .val (.int p3), .val (.int p4), .val (.int p5), .val (.int p6), .val (.int p3), .val (.int p4), .val (.ref r3), .val (.ref r8), .val (.ref b15), .unset, .unset, .unset, .unset, .unset, .unset, .unset] [(.int p4), (.int p3), (.ref r8), (.ref b36), (.ref b36)])) rfl (by rw [hml]; rfl) (Steps.refl _) (a := b36) (argsL := [(.ref r8), (.int p3), (.int p4)]) (rest := [(.ref b36)]) (lenOf own_pd103 rfl) rfl (by show 2 * 0 + _ ≤ _; exact Nat.le_of_eq rfl) (hb hby at_78) (fun _ _ => ⟨rfl, e36, (by decide : 8 + 2 ≤ _), (by decide : 36 + 20 ≤ _)⟩)
      dsimp only [Pt.U, Pt.locs, Pt.cells, Pt.slots] at Y48 Si48 gr48 l48 y48 z48 st48 hQ48
      subst l48 y48 z48
      obtain ⟨X48, hS48, hZ48, hown48⟩ := rebS hS23 (by rw [e36]; exact hk47) Y48 Si48 gr48 hZ23 hown23
      obtain ⟨rfl, N48q, K48, Q48_0, Q48_1, Q48_2, Q48_3⟩ := hQ48
      have f49 := own_staKeepE f37 K48 (allS ⟨_, A36⟩ all0)
      have f50 := f38.keep K48
      have f51 := f39.keep K48 (ninS ne_r3_b36 nin0)
      have f52 := f40.keep K48
      have f53 := f41.keep K48 (ninS ne_r8_b36 nin0)
      have f54 := f42.keep K48
      have f55 := f43.keep K48 (ninS ne_b15_b36 nin0)
      have f56 := f44.keep K48 (ninS ne_b15_b36 nin0)
      have f57 := f45.keep K48 (ninS ne_b15_b36 nin0)
      have f58 := A36.keep K48
      have Z62 := Nat.le_trans Z46 K48.1
      have hk63 := Nat.le_trans hk47 K48.1
      have N64 := Fr.app N35 N48q
      obtain ⟨cq65, kq65, q65a, q65b, q65c⟩ := isOf hZ48 rfl f54
      obtain ⟨v65, _, ⟨T65, L65, k65, n65⟩, -, X65, ⟨Lc65, hQ65, l65, y65, z65⟩, st65⟩ := X48.virtualBack hx (y := (⟨"com/example/edgbaston/edgbaston/source/Location", "isBefore", "(Lcom/example/edgbaston/edgbaston/source/Location;)Z"⟩ : MethodName)) (z := (⟨"com/example/edgbaston/edgbaston/source/Location", "isBefore", "(Lcom/example/edgbaston/edgbaston/source/Location;)Z"⟩ : MethodName)) hown48 (mvT hZ48 (hw _ (List.mem_of_getElem? (i := 51) rfl))) (mvT hZ48 (hw _ (List.mem_of_getElem? (i := 52) rfl))) (notFace_of_selects (args := #[]) (mvT hZ48 (hw _ (List.mem_of_getElem? (i := 54) rfl)))) (mvT hZ48 (hw _ (List.mem_of_getElem? (i := 54) rfl))) (mvT hZ48 (hw _ (List.mem_of_getElem? (i := 53) rfl))) (by decide) (backOf (W := 0) (own_rm9 l Z a0 hw [] b15 b36 p1 p3 p2 p4 T48.heap n0 Z62 f56 Q48_2 f57 Q48_3) hZ48 (hw _ (List.mem_of_getElem? (i := 55) rfl)) (hw _ (List.mem_of_getElem? (i := 28) rfl)) (by decide) (by decide)) q65a q65c (g := (mkF m 87 #[.val (.int p1), .val (.int p2), .val (.int p3), .val (.int p4), .val (.int p5), .val (.int p6), .val (.int p3), .val (.int p4), .val (.ref r3), .val (.ref r8), .val (.ref b15), .val (.ref b36), .unset, .unset, .unset, .unset, .unset, .unset] [(.ref b36), (.ref b15)])) rfl (by rw [hml]; rfl) (Steps.refl _) (argsL := [(.ref b36)]) (rest := []) (lenOf own_pd104 rfl) rfl (by show 2 * 0 + _ ≤ _; exact Nat.le_of_eq rfl) (hb hby at_87) (fun _ _ => ⟨rfl, rfl, (by decide : 10 + 0 ≤ _), (by decide : 56 + 0 ≤ _)⟩)
      dsimp only [Pt.U, Pt.locs, Pt.cells, Pt.slots] at X65 l65 y65 z65 st65 hQ65
      subst l65 y65 z65
      obtain ⟨rfl, N65q, e65⟩ := hQ65
      have N66 := Fr.app N64 N65q
      obtain ⟨cq67, kq67, q67a, q67b, q67c⟩ := isOf hZ48 e65 Q48_0
      obtain ⟨v67, _, ⟨T67, L67, k67, n67⟩, -, X67, ⟨Lc67, hQ67, l67, y67, z67⟩, st67⟩ := X65.virtualBack hx (y := (⟨"com/example/edgbaston/edgbaston/source/Location", "isBefore", "(Lcom/example/edgbaston/edgbaston/source/Location;)Z"⟩ : MethodName)) (z := (⟨"com/example/edgbaston/edgbaston/source/Location", "isBefore", "(Lcom/example/edgbaston/edgbaston/source/Location;)Z"⟩ : MethodName)) hown48 (mvT hZ48 (hw _ (List.mem_of_getElem? (i := 51) rfl))) (mvT hZ48 (hw _ (List.mem_of_getElem? (i := 52) rfl))) (notFace_of_selects (args := #[]) (mvT hZ48 (hw _ (List.mem_of_getElem? (i := 54) rfl)))) (mvT hZ48 (hw _ (List.mem_of_getElem? (i := 54) rfl))) (mvT hZ48 (hw _ (List.mem_of_getElem? (i := 53) rfl))) (by decide) (backOf (W := 0) (own_rm9 l Z a0 hw [] b36 b15 p3 p1 p4 p2 T48.heap n0 Z62 Q48_2 f56 Q48_3 f57) hZ48 (hw _ (List.mem_of_getElem? (i := 55) rfl)) (hw _ (List.mem_of_getElem? (i := 28) rfl)) (by decide) (by decide)) q67a q67c (g := (mkF m 96 #[.val (.int p1), .val (.int p2), .val (.int p3), .val (.int p4), .val (.int p5), .val (.int p6), .val (.int p3), .val (.int p4), .val (.ref r3), .val (.ref r8), .val (.ref b15), .val (.ref b36), .val (.int (own_f9 p1 p3 p2 p4)), .unset, .unset, .unset, .unset, .unset] [(.ref b15), (.ref b36)])) rfl (by rw [hml]; rfl) (Steps.refl _) (argsL := [(.ref b15)]) (rest := []) (lenOf own_pd104 rfl) rfl (by show 2 * 0 + _ ≤ _; exact Nat.le_of_eq rfl) (hb hby at_96) (fun _ _ => ⟨rfl, e65, (by decide : 10 + 0 ≤ _), (by decide : 56 + 0 ≤ _)⟩)
      dsimp only [Pt.U, Pt.locs, Pt.cells, Pt.slots] at X67 l67 y67 z67 st67 hQ67
      subst l67 y67 z67
      obtain ⟨rfl, N67q, e67⟩ := hQ67
      have N68 := Fr.app N66 N67q
      obtain ⟨v69, _, ⟨T69, L69, k69, n69⟩, -, X69, ⟨Lc69, hQ69, l69, y69, z69⟩, st69⟩ := Jvm.LawKit.callS X67 hx (y := (⟨"com/example/edgbaston/edgbaston/source/LocationIsBeforePinLaw", "key", "(II)J"⟩ : MethodName)) hown48 (mvT hZ48 (hw _ (List.mem_of_getElem? (i := 56) rfl))) (mvT hZ48 (hw _ (List.mem_of_getElem? (i := 57) rfl))) (mvT hZ48 (hw _ (List.mem_of_getElem? (i := 58) rfl))) (mvT hZ48 (hw _ (List.mem_of_getElem? (i := 59) rfl))) (by decide) (backOf (W := 0) (own_rm10 l Z a0 hw [] p1 p2 T48.heap n0 Z62) hZ48 (hw _ (List.mem_of_getElem? (i := 59) rfl)) (hw _ (List.mem_of_getElem? (i := 58) rfl)) (by decide) (by decide)) (g := (mkF m 103 #[.val (.int p1), .val (.int p2), .val (.int p3), .val (.int p4), .val (.int p5), .val (.int p6), .val (.int p3), .val (.int p4), .val (.ref r3), .val (.ref r8), .val (.ref b15), .val (.ref b36), .val (.int (own_f9 p1 p3 p2 p4)), .val (.int (own_f9 p3 p1 p4 p2)), .unset, .unset, .unset, .unset] [(.int p2), (.int p1)])) rfl (by rw [hml]; rfl) (argsL := [(.int p1), (.int p2)]) (rest := []) (lenOf own_pd105 rfl) rfl (by show 2 * 0 + _ ≤ _; exact Nat.le_of_eq rfl) (hb hby at_103) (fun _ _ => ⟨rfl, e67, (by decide : 10 + 0 ≤ _), (by decide : 56 + 0 ≤ _)⟩)
      dsimp only [Pt.U, Pt.locs, Pt.cells, Pt.slots] at X69 l69 y69 z69 st69 hQ69
      subst l69 y69 z69
      obtain ⟨rfl, N69q, e69⟩ := hQ69
      have N70 := Fr.app N68 N69q
      obtain ⟨v71, _, ⟨T71, L71, k71, n71⟩, -, X71, ⟨Lc71, hQ71, l71, y71, z71⟩, st71⟩ := Jvm.LawKit.callS X69 hx (y := (⟨"com/example/edgbaston/edgbaston/source/LocationIsBeforePinLaw", "key", "(II)J"⟩ : MethodName)) hown48 (mvT hZ48 (hw _ (List.mem_of_getElem? (i := 56) rfl))) (mvT hZ48 (hw _ (List.mem_of_getElem? (i := 57) rfl))) (mvT hZ48 (hw _ (List.mem_of_getElem? (i := 58) rfl))) (mvT hZ48 (hw _ (List.mem_of_getElem? (i := 59) rfl))) (by decide) (backOf (W := 0) (own_rm10 l Z a0 hw [] p3 p4 T48.heap n0 Z62) hZ48 (hw _ (List.mem_of_getElem? (i := 59) rfl)) (hw _ (List.mem_of_getElem? (i := 58) rfl)) (by decide) (by decide)) (g := (mkF m 112 #[.val (.int p1), .val (.int p2), .val (.int p3), .val (.int p4), .val (.int p5), .val (.int p6), .val (.int p3), .val (.int p4), .val (.ref r3), .val (.ref r8), .val (.ref b15), .val (.ref b36), .val (.int (own_f9 p1 p3 p2 p4)), .val (.int (own_f9 p3 p1 p4 p2)), .val (.long (own_f10 p1 p2)), .second, .unset, .unset] [(.int p4), (.int p3)])) rfl (by rw [hml]; rfl) (argsL := [(.int p3), (.int p4)]) (rest := []) (lenOf own_pd105 rfl) rfl (by show 2 * 0 + _ ≤ _; exact Nat.le_of_eq rfl) (hb hby at_112) (fun _ _ => ⟨rfl, e69, (by decide : 10 + 0 ≤ _), (by decide : 56 + 0 ≤ _)⟩)
      dsimp only [Pt.U, Pt.locs, Pt.cells, Pt.slots] at X71 l71 y71 z71 st71 hQ71
      subst l71 y71 z71
      obtain ⟨rfl, N71q, e71⟩ := hQ71
      have N72 := Fr.app N70 N71q
      have k73 : ∀ t, Steps p.tables e below (T71.setTop (mkF m 124 #[.val (.int p1), .val (.int p2), .val (.int p3), .val (.int p4), .val (.int p5), .val (.int p6), .val (.int p3), .val (.int p4), .val (.ref r3), .val (.ref r8), .val (.ref b15), .val (.ref b36), .val (.int (own_f9 p1 p3 p2 p4)), .val (.int (own_f9 p3 p1 p4 p2)), .val (.long (own_f10 p1 p2)), .second, .val (.long (own_f10 p3 p4)), .second] [(.int (lcmpW (own_f10 p1 p2) (own_f10 p3 p4))), (.int (own_f9 p1 p3 p2 p4))])) t → Steps p.tables e below (s₁.setTop (entryFrame m #[(.int p1), (.int p2), (.int p3), (.int p4), (.int p5), (.int p6)] maxLocals)) t := by
        intro t kt
        refine k2 t ?_
        show Steps p.tables e below (s₁.setTop (mkF m 18 #[.val (.int p1), .val (.int p2), .val (.int p3), .val (.int p4), .val (.int p5), .val (.int p6), .val (.int p3), .unset, .unset, .unset, .unset, .unset, .unset, .unset, .unset, .unset, .unset, .unset] [(.int (p5 &&& (2 : Int32)))])) _
        refine XS.ifYes X0.here hx rfl (pc0 := 18) (pc' := 25) rfl (hb hby at_18) rfl ((if0 _ _).trans (teq hc2).1) (by decide) (by decide) ?_
        show Steps p.tables e below (s₁.setTop (mkF m 25 #[.val (.int p1), .val (.int p2), .val (.int p3), .val (.int p4), .val (.int p5), .val (.int p6), .val (.int p3), .unset, .unset, .unset, .unset, .unset, .unset, .unset, .unset, .unset, .unset, .unset] [])) _
        refine XS.iloadN X0.here hx rfl (hb hby at_25) rfl ?_
        show Steps p.tables e below (s₁.setTop (mkF m 26 #[.val (.int p1), .val (.int p2), .val (.int p3), .val (.int p4), .val (.int p5), .val (.int p6), .val (.int p3), .unset, .unset, .unset, .unset, .unset, .unset, .unset, .unset, .unset, .unset, .unset] [(.int p4)])) _
        refine XS.istore X0.here hx rfl (hb hby at_26) rfl (l' := #[.val (.int p1), .val (.int p2), .val (.int p3), .val (.int p4), .val (.int p5), .val (.int p6), .val (.int p3), .val (.int p4), .unset, .unset, .unset, .unset, .unset, .unset, .unset, .unset, .unset, .unset]) rfl ?_
        show Steps p.tables e below (s₁.setTop (mkF m 28 #[.val (.int p1), .val (.int p2), .val (.int p3), .val (.int p4), .val (.int p5), .val (.int p6), .val (.int p3), .val (.int p4), .unset, .unset, .unset, .unset, .unset, .unset, .unset, .unset, .unset, .unset] [])) _
        refine XS.iload X0.here hx rfl (hb hby at_28) rfl ?_
        show Steps p.tables e below (s₁.setTop (mkF m 30 #[.val (.int p1), .val (.int p2), .val (.int p3), .val (.int p4), .val (.int p5), .val (.int p6), .val (.int p3), .val (.int p4), .unset, .unset, .unset, .unset, .unset, .unset, .unset, .unset, .unset, .unset] [(.int p6)])) _
        refine XS.sipush X0.here hx rfl (hb hby at_30) ?_
        show Steps p.tables e below (s₁.setTop (mkF m 33 #[.val (.int p1), .val (.int p2), .val (.int p3), .val (.int p4), .val (.int p5), .val (.int p6), .val (.int p3), .val (.int p4), .unset, .unset, .unset, .unset, .unset, .unset, .unset, .unset, .unset, .unset] [(.int (255 : Int32)), (.int p6)])) _
        refine XS.iand X0.here hx rfl (hb hby at_33) rfl ?_
        show Steps p.tables e below (s₁.setTop (mkF m 34 #[.val (.int p1), .val (.int p2), .val (.int p3), .val (.int p4), .val (.int p5), .val (.int p6), .val (.int p3), .val (.int p4), .unset, .unset, .unset, .unset, .unset, .unset, .unset, .unset, .unset, .unset] [(.int (p6 &&& (255 : Int32)))])) _
        refine XS.i2c X0.here hx rfl (hb hby at_34) rfl ?_
        show Steps p.tables e below (s₁.setTop (mkF m 35 #[.val (.int p1), .val (.int p2), .val (.int p3), .val (.int p4), .val (.int p5), .val (.int p6), .val (.int p3), .val (.int p4), .unset, .unset, .unset, .unset, .unset, .unset, .unset, .unset, .unset, .unset] [(.int ((p6 &&& (255 : Int32)).toUInt32.toUInt16.toUInt32.toInt32))])) _
        refine st3 _ ?_
        show Steps p.tables e below (T3.setTop (mkF m 38 #[.val (.int p1), .val (.int p2), .val (.int p3), .val (.int p4), .val (.int p5), .val (.int p6), .val (.int p3), .val (.int p4), .unset, .unset, .unset, .unset, .unset, .unset, .unset, .unset, .unset, .unset] [(.ref r3)])) _
        refine XS.astore X3.here hx rfl (hb hby at_38) rfl rfl (l' := #[.val (.int p1), .val (.int p2), .val (.int p3), .val (.int p4), .val (.int p5), .val (.int p6), .val (.int p3), .val (.int p4), .val (.ref r3), .unset, .unset, .unset, .unset, .unset, .unset, .unset, .unset, .unset]) rfl ?_
        show Steps p.tables e below (T3.setTop (mkF m 40 #[.val (.int p1), .val (.int p2), .val (.int p3), .val (.int p4), .val (.int p5), .val (.int p6), .val (.int p3), .val (.int p4), .val (.ref r3), .unset, .unset, .unset, .unset, .unset, .unset, .unset, .unset, .unset] [])) _
        refine XS.iload X3.here hx rfl (hb hby at_40) rfl ?_
        show Steps p.tables e below (T3.setTop (mkF m 42 #[.val (.int p1), .val (.int p2), .val (.int p3), .val (.int p4), .val (.int p5), .val (.int p6), .val (.int p3), .val (.int p4), .val (.ref r3), .unset, .unset, .unset, .unset, .unset, .unset, .unset, .unset, .unset] [(.int p6)])) _
        refine XS.bipush X3.here hx rfl (hb hby at_42) ?_
        show Steps p.tables e below (T3.setTop (mkF m 44 #[.val (.int p1), .val (.int p2), .val (.int p3), .val (.int p4), .val (.int p5), .val (.int p6), .val (.int p3), .val (.int p4), .val (.ref r3), .unset, .unset, .unset, .unset, .unset, .unset, .unset, .unset, .unset] [(.int (8 : Int32)), (.int p6)])) _
        refine XS.iushr X3.here hx rfl (hb hby at_44) rfl ?_
        show Steps p.tables e below (T3.setTop (mkF m 45 #[.val (.int p1), .val (.int p2), .val (.int p3), .val (.int p4), .val (.int p5), .val (.int p6), .val (.int p3), .val (.int p4), .val (.ref r3), .unset, .unset, .unset, .unset, .unset, .unset, .unset, .unset, .unset] [(.int ((p6.toUInt32 >>> ((8 : Int32) &&& 31).toUInt32).toInt32))])) _
        refine XS.sipush X3.here hx rfl (hb hby at_45) ?_
        show Steps p.tables e below (T3.setTop (mkF m 48 #[.val (.int p1), .val (.int p2), .val (.int p3), .val (.int p4), .val (.int p5), .val (.int p6), .val (.int p3), .val (.int p4), .val (.ref r3), .unset, .unset, .unset, .unset, .unset, .unset, .unset, .unset, .unset] [(.int (255 : Int32)), (.int ((p6.toUInt32 >>> ((8 : Int32) &&& 31).toUInt32).toInt32))])) _
        refine XS.iand X3.here hx rfl (hb hby at_48) rfl ?_
        show Steps p.tables e below (T3.setTop (mkF m 49 #[.val (.int p1), .val (.int p2), .val (.int p3), .val (.int p4), .val (.int p5), .val (.int p6), .val (.int p3), .val (.int p4), .val (.ref r3), .unset, .unset, .unset, .unset, .unset, .unset, .unset, .unset, .unset] [(.int (((p6.toUInt32 >>> ((8 : Int32) &&& 31).toUInt32).toInt32) &&& (255 : Int32)))])) _
        refine XS.i2c X3.here hx rfl (hb hby at_49) rfl ?_
        show Steps p.tables e below (T3.setTop (mkF m 50 #[.val (.int p1), .val (.int p2), .val (.int p3), .val (.int p4), .val (.int p5), .val (.int p6), .val (.int p3), .val (.int p4), .val (.ref r3), .unset, .unset, .unset, .unset, .unset, .unset, .unset, .unset, .unset] [(.int ((((p6.toUInt32 >>> ((8 : Int32) &&& 31).toUInt32).toInt32) &&& (255 : Int32)).toUInt32.toUInt16.toUInt32.toInt32))])) _
        refine st8 _ ?_
        show Steps p.tables e below (T8.setTop (mkF m 53 #[.val (.int p1), .val (.int p2), .val (.int p3), .val (.int p4), .val (.int p5), .val (.int p6), .val (.int p3), .val (.int p4), .val (.ref r3), .unset, .unset, .unset, .unset, .unset, .unset, .unset, .unset, .unset] [(.ref r8)])) _
        refine XS.astore X8.here hx rfl (hb hby at_53) rfl rfl (l' := #[.val (.int p1), .val (.int p2), .val (.int p3), .val (.int p4), .val (.int p5), .val (.int p6), .val (.int p3), .val (.int p4), .val (.ref r3), .val (.ref r8), .unset, .unset, .unset, .unset, .unset, .unset, .unset, .unset]) rfl ?_
        show Steps p.tables e below (T8.setTop (mkF m 55 #[.val (.int p1), .val (.int p2), .val (.int p3), .val (.int p4), .val (.int p5), .val (.int p6), .val (.int p3), .val (.int p4), .val (.ref r3), .val (.ref r8), .unset, .unset, .unset, .unset, .unset, .unset, .unset, .unset] [])) _
        refine st15 _ ?_
        show Steps p.tables e below (T15.setTop (mkF m 58 #[.val (.int p1), .val (.int p2), .val (.int p3), .val (.int p4), .val (.int p5), .val (.int p6), .val (.int p3), .val (.int p4), .val (.ref r3), .val (.ref r8), .unset, .unset, .unset, .unset, .unset, .unset, .unset, .unset] [(.ref b15)])) _
        refine XS.dup X15.here hx rfl (hb hby at_58) rfl rfl ?_
        show Steps p.tables e below (T15.setTop (mkF m 59 #[.val (.int p1), .val (.int p2), .val (.int p3), .val (.int p4), .val (.int p5), .val (.int p6), .val (.int p3), .val (.int p4), .val (.ref r3), .val (.ref r8), .unset, .unset, .unset, .unset, .unset, .unset, .unset, .unset] [(.ref b15), (.ref b15)])) _
        refine XS.aload X15.here hx rfl (hb hby at_59) rfl rfl ?_
        show Steps p.tables e below (T15.setTop (mkF m 61 #[.val (.int p1), .val (.int p2), .val (.int p3), .val (.int p4), .val (.int p5), .val (.int p6), .val (.int p3), .val (.int p4), .val (.ref r3), .val (.ref r8), .unset, .unset, .unset, .unset, .unset, .unset, .unset, .unset] [(.ref r3), (.ref b15), (.ref b15)])) _
        refine XS.iloadN X15.here hx rfl (hb hby at_61) rfl ?_
        show Steps p.tables e below (T15.setTop (mkF m 62 #[.val (.int p1), .val (.int p2), .val (.int p3), .val (.int p4), .val (.int p5), .val (.int p6), .val (.int p3), .val (.int p4), .val (.ref r3), .val (.ref r8), .unset, .unset, .unset, .unset, .unset, .unset, .unset, .unset] [(.int p1), (.ref r3), (.ref b15), (.ref b15)])) _
        refine XS.iloadN X15.here hx rfl (hb hby at_62) rfl ?_
        show Steps p.tables e below (T15.setTop (mkF m 63 #[.val (.int p1), .val (.int p2), .val (.int p3), .val (.int p4), .val (.int p5), .val (.int p6), .val (.int p3), .val (.int p4), .val (.ref r3), .val (.ref r8), .unset, .unset, .unset, .unset, .unset, .unset, .unset, .unset] [(.int p2), (.int p1), (.ref r3), (.ref b15), (.ref b15)])) _
        refine st23.trans ?_
        show Steps p.tables e below (T23.setTop (mkF m 66 #[.val (.int p1), .val (.int p2), .val (.int p3), .val (.int p4), .val (.int p5), .val (.int p6), .val (.int p3), .val (.int p4), .val (.ref r3), .val (.ref r8), .unset, .unset, .unset, .unset, .unset, .unset, .unset, .unset] [(.ref b15)])) _
        refine XS.astore X23.here hx rfl (hb hby at_66) rfl rfl (l' := #[.val (.int p1), .val (.int p2), .val (.int p3), .val (.int p4), .val (.int p5), .val (.int p6), .val (.int p3), .val (.int p4), .val (.ref r3), .val (.ref r8), .val (.ref b15), .unset, .unset, .unset, .unset, .unset, .unset, .unset]) rfl ?_
        show Steps p.tables e below (T23.setTop (mkF m 68 #[.val (.int p1), .val (.int p2), .val (.int p3), .val (.int p4), .val (.int p5), .val (.int p6), .val (.int p3), .val (.int p4), .val (.ref r3), .val (.ref r8), .val (.ref b15), .unset, .unset, .unset, .unset, .unset, .unset, .unset] [])) _
        refine st36 _ ?_
        show Steps p.tables e below (T36.setTop (mkF m 71 #[.val (.int p1), .val (.int p2), .val (.int p3), .val (.int p4), .val (.int p5), .val (.int p6), .val (.int p3), .val (.int p4), .val (.ref r3), .val (.ref r8), .val (.ref b15), .unset, .unset, .unset, .unset, .unset, .unset, .unset] [(.ref b36)])) _
        refine XS.dup X36.here hx rfl (hb hby at_71) rfl rfl ?_
        show Steps p.tables e below (T36.setTop (mkF m 72 #[.val (.int p1), .val (.int p2), .val (.int p3), .val (.int p4), .val (.int p5), .val (.int p6), .val (.int p3), .val (.int p4), .val (.ref r3), .val (.ref r8), .val (.ref b15), .unset, .unset, .unset, .unset, .unset, .unset, .unset] [(.ref b36), (.ref b36)])) _
        refine XS.aload X36.here hx rfl (hb hby at_72) rfl rfl ?_
        show Steps p.tables e below (T36.setTop (mkF m 74 #[.val (.int p1), .val (.int p2), .val (.int p3), .val (.int p4), .val (.int p5), .val (.int p6), .val (.int p3), .val (.int p4), .val (.ref r3), .val (.ref r8), .val (.ref b15), .unset, .unset, .unset, .unset, .unset, .unset, .unset] [(.ref r8), (.ref b36), (.ref b36)])) _
        refine XS.iload X36.here hx rfl (hb hby at_74) rfl ?_
        show Steps p.tables e below (T36.setTop (mkF m 76 #[.val (.int p1), .val (.int p2), .val (.int p3), .val (.int p4), .val (.int p5), .val (.int p6), .val (.int p3), .val (.int p4), .val (.ref r3), .val (.ref r8), .val (.ref b15), .unset, .unset, .unset, .unset, .unset, .unset, .unset] [(.int p3), (.ref r8), (.ref b36), (.ref b36)])) _
        refine XS.iload X36.here hx rfl (hb hby at_76) rfl ?_
        show Steps p.tables e below (T36.setTop (mkF m 78 #[.val (.int p1), .val (.int p2), .val (.int p3), .val (.int p4), .val (.int p5), .val (.int p6), .val (.int p3), .val (.int p4), .val (.ref r3), .val (.ref r8), .val (.ref b15), .unset, .unset, .unset, .unset, .unset, .unset, .unset] [(.int p4), (.int p3), (.ref r8), (.ref b36), (.ref b36)])) _
        refine st48.trans ?_
        show Steps p.tables e below (T48.setTop (mkF m 81 #[.val (.int p1), .val (.int p2), .val (.int p3), .val (.int p4), .val (.int p5), .val (.int p6), .val (.int p3), .val (.int p4), .val (.ref r3), .val (.ref r8), .val (.ref b15), .unset, .unset, .unset, .unset, .unset, .unset, .unset] [(.ref b36)])) _
        refine XS.astore X48.here hx rfl (hb hby at_81) rfl rfl (l' := #[.val (.int p1), .val (.int p2), .val (.int p3), .val (.int p4), .val (.int p5), .val (.int p6), .val (.int p3), .val (.int p4), .val (.ref r3), .val (.ref r8), .val (.ref b15), .val (.ref b36), .unset, .unset, .unset, .unset, .unset, .unset]) rfl ?_
        show Steps p.tables e below (T48.setTop (mkF m 83 #[.val (.int p1), .val (.int p2), .val (.int p3), .val (.int p4), .val (.int p5), .val (.int p6), .val (.int p3), .val (.int p4), .val (.ref r3), .val (.ref r8), .val (.ref b15), .val (.ref b36), .unset, .unset, .unset, .unset, .unset, .unset] [])) _
        refine XS.aload X48.here hx rfl (hb hby at_83) rfl rfl ?_
        show Steps p.tables e below (T48.setTop (mkF m 85 #[.val (.int p1), .val (.int p2), .val (.int p3), .val (.int p4), .val (.int p5), .val (.int p6), .val (.int p3), .val (.int p4), .val (.ref r3), .val (.ref r8), .val (.ref b15), .val (.ref b36), .unset, .unset, .unset, .unset, .unset, .unset] [(.ref b15)])) _
        refine XS.aload X48.here hx rfl (hb hby at_85) rfl rfl ?_
        show Steps p.tables e below (T48.setTop (mkF m 87 #[.val (.int p1), .val (.int p2), .val (.int p3), .val (.int p4), .val (.int p5), .val (.int p6), .val (.int p3), .val (.int p4), .val (.ref r3), .val (.ref r8), .val (.ref b15), .val (.ref b36), .unset, .unset, .unset, .unset, .unset, .unset] [(.ref b36), (.ref b15)])) _
        refine st65.trans ?_
        show Steps p.tables e below (T65.setTop (mkF m 90 #[.val (.int p1), .val (.int p2), .val (.int p3), .val (.int p4), .val (.int p5), .val (.int p6), .val (.int p3), .val (.int p4), .val (.ref r3), .val (.ref r8), .val (.ref b15), .val (.ref b36), .unset, .unset, .unset, .unset, .unset, .unset] [(.int (own_f9 p1 p3 p2 p4))])) _
        refine XS.istore X65.here hx rfl (hb hby at_90) rfl (l' := #[.val (.int p1), .val (.int p2), .val (.int p3), .val (.int p4), .val (.int p5), .val (.int p6), .val (.int p3), .val (.int p4), .val (.ref r3), .val (.ref r8), .val (.ref b15), .val (.ref b36), .val (.int (own_f9 p1 p3 p2 p4)), .unset, .unset, .unset, .unset, .unset]) rfl ?_
        show Steps p.tables e below (T65.setTop (mkF m 92 #[.val (.int p1), .val (.int p2), .val (.int p3), .val (.int p4), .val (.int p5), .val (.int p6), .val (.int p3), .val (.int p4), .val (.ref r3), .val (.ref r8), .val (.ref b15), .val (.ref b36), .val (.int (own_f9 p1 p3 p2 p4)), .unset, .unset, .unset, .unset, .unset] [])) _
        refine XS.aload X65.here hx rfl (hb hby at_92) rfl rfl ?_
        show Steps p.tables e below (T65.setTop (mkF m 94 #[.val (.int p1), .val (.int p2), .val (.int p3), .val (.int p4), .val (.int p5), .val (.int p6), .val (.int p3), .val (.int p4), .val (.ref r3), .val (.ref r8), .val (.ref b15), .val (.ref b36), .val (.int (own_f9 p1 p3 p2 p4)), .unset, .unset, .unset, .unset, .unset] [(.ref b36)])) _
        refine XS.aload X65.here hx rfl (hb hby at_94) rfl rfl ?_
        show Steps p.tables e below (T65.setTop (mkF m 96 #[.val (.int p1), .val (.int p2), .val (.int p3), .val (.int p4), .val (.int p5), .val (.int p6), .val (.int p3), .val (.int p4), .val (.ref r3), .val (.ref r8), .val (.ref b15), .val (.ref b36), .val (.int (own_f9 p1 p3 p2 p4)), .unset, .unset, .unset, .unset, .unset] [(.ref b15), (.ref b36)])) _
        refine st67.trans ?_
        show Steps p.tables e below (T67.setTop (mkF m 99 #[.val (.int p1), .val (.int p2), .val (.int p3), .val (.int p4), .val (.int p5), .val (.int p6), .val (.int p3), .val (.int p4), .val (.ref r3), .val (.ref r8), .val (.ref b15), .val (.ref b36), .val (.int (own_f9 p1 p3 p2 p4)), .unset, .unset, .unset, .unset, .unset] [(.int (own_f9 p3 p1 p4 p2))])) _
        refine XS.istore X67.here hx rfl (hb hby at_99) rfl (l' := #[.val (.int p1), .val (.int p2), .val (.int p3), .val (.int p4), .val (.int p5), .val (.int p6), .val (.int p3), .val (.int p4), .val (.ref r3), .val (.ref r8), .val (.ref b15), .val (.ref b36), .val (.int (own_f9 p1 p3 p2 p4)), .val (.int (own_f9 p3 p1 p4 p2)), .unset, .unset, .unset, .unset]) rfl ?_
        show Steps p.tables e below (T67.setTop (mkF m 101 #[.val (.int p1), .val (.int p2), .val (.int p3), .val (.int p4), .val (.int p5), .val (.int p6), .val (.int p3), .val (.int p4), .val (.ref r3), .val (.ref r8), .val (.ref b15), .val (.ref b36), .val (.int (own_f9 p1 p3 p2 p4)), .val (.int (own_f9 p3 p1 p4 p2)), .unset, .unset, .unset, .unset] [])) _
        refine XS.iloadN X67.here hx rfl (hb hby at_101) rfl ?_
        show Steps p.tables e below (T67.setTop (mkF m 102 #[.val (.int p1), .val (.int p2), .val (.int p3), .val (.int p4), .val (.int p5), .val (.int p6), .val (.int p3), .val (.int p4), .val (.ref r3), .val (.ref r8), .val (.ref b15), .val (.ref b36), .val (.int (own_f9 p1 p3 p2 p4)), .val (.int (own_f9 p3 p1 p4 p2)), .unset, .unset, .unset, .unset] [(.int p1)])) _
        refine XS.iloadN X67.here hx rfl (hb hby at_102) rfl ?_
        show Steps p.tables e below (T67.setTop (mkF m 103 #[.val (.int p1), .val (.int p2), .val (.int p3), .val (.int p4), .val (.int p5), .val (.int p6), .val (.int p3), .val (.int p4), .val (.ref r3), .val (.ref r8), .val (.ref b15), .val (.ref b36), .val (.int (own_f9 p1 p3 p2 p4)), .val (.int (own_f9 p3 p1 p4 p2)), .unset, .unset, .unset, .unset] [(.int p2), (.int p1)])) _
        refine st69 _ ?_
        show Steps p.tables e below (T69.setTop (mkF m 106 #[.val (.int p1), .val (.int p2), .val (.int p3), .val (.int p4), .val (.int p5), .val (.int p6), .val (.int p3), .val (.int p4), .val (.ref r3), .val (.ref r8), .val (.ref b15), .val (.ref b36), .val (.int (own_f9 p1 p3 p2 p4)), .val (.int (own_f9 p3 p1 p4 p2)), .unset, .unset, .unset, .unset] [(.long (own_f10 p1 p2))])) _
        refine XS.lstore X69.here hx rfl (hb hby at_106) rfl (l' := #[.val (.int p1), .val (.int p2), .val (.int p3), .val (.int p4), .val (.int p5), .val (.int p6), .val (.int p3), .val (.int p4), .val (.ref r3), .val (.ref r8), .val (.ref b15), .val (.ref b36), .val (.int (own_f9 p1 p3 p2 p4)), .val (.int (own_f9 p3 p1 p4 p2)), .val (.long (own_f10 p1 p2)), .second, .unset, .unset]) rfl ?_
        show Steps p.tables e below (T69.setTop (mkF m 108 #[.val (.int p1), .val (.int p2), .val (.int p3), .val (.int p4), .val (.int p5), .val (.int p6), .val (.int p3), .val (.int p4), .val (.ref r3), .val (.ref r8), .val (.ref b15), .val (.ref b36), .val (.int (own_f9 p1 p3 p2 p4)), .val (.int (own_f9 p3 p1 p4 p2)), .val (.long (own_f10 p1 p2)), .second, .unset, .unset] [])) _
        refine XS.iload X69.here hx rfl (hb hby at_108) rfl ?_
        show Steps p.tables e below (T69.setTop (mkF m 110 #[.val (.int p1), .val (.int p2), .val (.int p3), .val (.int p4), .val (.int p5), .val (.int p6), .val (.int p3), .val (.int p4), .val (.ref r3), .val (.ref r8), .val (.ref b15), .val (.ref b36), .val (.int (own_f9 p1 p3 p2 p4)), .val (.int (own_f9 p3 p1 p4 p2)), .val (.long (own_f10 p1 p2)), .second, .unset, .unset] [(.int p3)])) _
        refine XS.iload X69.here hx rfl (hb hby at_110) rfl ?_
        show Steps p.tables e below (T69.setTop (mkF m 112 #[.val (.int p1), .val (.int p2), .val (.int p3), .val (.int p4), .val (.int p5), .val (.int p6), .val (.int p3), .val (.int p4), .val (.ref r3), .val (.ref r8), .val (.ref b15), .val (.ref b36), .val (.int (own_f9 p1 p3 p2 p4)), .val (.int (own_f9 p3 p1 p4 p2)), .val (.long (own_f10 p1 p2)), .second, .unset, .unset] [(.int p4), (.int p3)])) _
        refine st71 _ ?_
        show Steps p.tables e below (T71.setTop (mkF m 115 #[.val (.int p1), .val (.int p2), .val (.int p3), .val (.int p4), .val (.int p5), .val (.int p6), .val (.int p3), .val (.int p4), .val (.ref r3), .val (.ref r8), .val (.ref b15), .val (.ref b36), .val (.int (own_f9 p1 p3 p2 p4)), .val (.int (own_f9 p3 p1 p4 p2)), .val (.long (own_f10 p1 p2)), .second, .unset, .unset] [(.long (own_f10 p3 p4))])) _
        refine XS.lstore X71.here hx rfl (hb hby at_115) rfl (l' := #[.val (.int p1), .val (.int p2), .val (.int p3), .val (.int p4), .val (.int p5), .val (.int p6), .val (.int p3), .val (.int p4), .val (.ref r3), .val (.ref r8), .val (.ref b15), .val (.ref b36), .val (.int (own_f9 p1 p3 p2 p4)), .val (.int (own_f9 p3 p1 p4 p2)), .val (.long (own_f10 p1 p2)), .second, .val (.long (own_f10 p3 p4)), .second]) rfl ?_
        show Steps p.tables e below (T71.setTop (mkF m 117 #[.val (.int p1), .val (.int p2), .val (.int p3), .val (.int p4), .val (.int p5), .val (.int p6), .val (.int p3), .val (.int p4), .val (.ref r3), .val (.ref r8), .val (.ref b15), .val (.ref b36), .val (.int (own_f9 p1 p3 p2 p4)), .val (.int (own_f9 p3 p1 p4 p2)), .val (.long (own_f10 p1 p2)), .second, .val (.long (own_f10 p3 p4)), .second] [])) _
        refine XS.iload X71.here hx rfl (hb hby at_117) rfl ?_
        show Steps p.tables e below (T71.setTop (mkF m 119 #[.val (.int p1), .val (.int p2), .val (.int p3), .val (.int p4), .val (.int p5), .val (.int p6), .val (.int p3), .val (.int p4), .val (.ref r3), .val (.ref r8), .val (.ref b15), .val (.ref b36), .val (.int (own_f9 p1 p3 p2 p4)), .val (.int (own_f9 p3 p1 p4 p2)), .val (.long (own_f10 p1 p2)), .second, .val (.long (own_f10 p3 p4)), .second] [(.int (own_f9 p1 p3 p2 p4))])) _
        refine XS.lload X71.here hx rfl (hb hby at_119) rfl ?_
        show Steps p.tables e below (T71.setTop (mkF m 121 #[.val (.int p1), .val (.int p2), .val (.int p3), .val (.int p4), .val (.int p5), .val (.int p6), .val (.int p3), .val (.int p4), .val (.ref r3), .val (.ref r8), .val (.ref b15), .val (.ref b36), .val (.int (own_f9 p1 p3 p2 p4)), .val (.int (own_f9 p3 p1 p4 p2)), .val (.long (own_f10 p1 p2)), .second, .val (.long (own_f10 p3 p4)), .second] [(.long (own_f10 p1 p2)), (.int (own_f9 p1 p3 p2 p4))])) _
        refine XS.lload X71.here hx rfl (hb hby at_121) rfl ?_
        show Steps p.tables e below (T71.setTop (mkF m 123 #[.val (.int p1), .val (.int p2), .val (.int p3), .val (.int p4), .val (.int p5), .val (.int p6), .val (.int p3), .val (.int p4), .val (.ref r3), .val (.ref r8), .val (.ref b15), .val (.ref b36), .val (.int (own_f9 p1 p3 p2 p4)), .val (.int (own_f9 p3 p1 p4 p2)), .val (.long (own_f10 p1 p2)), .second, .val (.long (own_f10 p3 p4)), .second] [(.long (own_f10 p3 p4)), (.long (own_f10 p1 p2)), (.int (own_f9 p1 p3 p2 p4))])) _
        refine XS.lcmp X71.here hx rfl (hb hby at_123) rfl ?_
        exact kt
      by_cases hc3 : (lcmpW (own_f10 p1 p2) (own_f10 p3 p4)) < (0 : Int32)
      ·
        have k74 : ∀ t, Steps p.tables e below (T71.setTop (mkF m 132 #[.val (.int p1), .val (.int p2), .val (.int p3), .val (.int p4), .val (.int p5), .val (.int p6), .val (.int p3), .val (.int p4), .val (.ref r3), .val (.ref r8), .val (.ref b15), .val (.ref b36), .val (.int (own_f9 p1 p3 p2 p4)), .val (.int (own_f9 p3 p1 p4 p2)), .val (.long (own_f10 p1 p2)), .second, .val (.long (own_f10 p3 p4)), .second] [(.int (1 : Int32)), (.int (own_f9 p1 p3 p2 p4))])) t → Steps p.tables e below (s₁.setTop (entryFrame m #[(.int p1), (.int p2), (.int p3), (.int p4), (.int p5), (.int p6)] maxLocals)) t := by
          intro t kt
          refine k73 t ?_
          show Steps p.tables e below (T71.setTop (mkF m 124 #[.val (.int p1), .val (.int p2), .val (.int p3), .val (.int p4), .val (.int p5), .val (.int p6), .val (.int p3), .val (.int p4), .val (.ref r3), .val (.ref r8), .val (.ref b15), .val (.ref b36), .val (.int (own_f9 p1 p3 p2 p4)), .val (.int (own_f9 p3 p1 p4 p2)), .val (.long (own_f10 p1 p2)), .second, .val (.long (own_f10 p3 p4)), .second] [(.int (lcmpW (own_f10 p1 p2) (own_f10 p3 p4))), (.int (own_f9 p1 p3 p2 p4))])) _
          refine XS.ifNo X71.here hx rfl (hb hby at_124) rfl ((if0 _ _).trans (tlt hc3).2.1) ?_
          show Steps p.tables e below (T71.setTop (mkF m 127 #[.val (.int p1), .val (.int p2), .val (.int p3), .val (.int p4), .val (.int p5), .val (.int p6), .val (.int p3), .val (.int p4), .val (.ref r3), .val (.ref r8), .val (.ref b15), .val (.ref b36), .val (.int (own_f9 p1 p3 p2 p4)), .val (.int (own_f9 p3 p1 p4 p2)), .val (.long (own_f10 p1 p2)), .second, .val (.long (own_f10 p3 p4)), .second] [(.int (own_f9 p1 p3 p2 p4))])) _
          refine XS.iconst X71.here hx rfl (hb hby at_127) ?_
          show Steps p.tables e below (T71.setTop (mkF m 128 #[.val (.int p1), .val (.int p2), .val (.int p3), .val (.int p4), .val (.int p5), .val (.int p6), .val (.int p3), .val (.int p4), .val (.ref r3), .val (.ref r8), .val (.ref b15), .val (.ref b36), .val (.int (own_f9 p1 p3 p2 p4)), .val (.int (own_f9 p3 p1 p4 p2)), .val (.long (own_f10 p1 p2)), .second, .val (.long (own_f10 p3 p4)), .second] [(.int (1 : Int32)), (.int (own_f9 p1 p3 p2 p4))])) _
          refine XS.goto X71.here hx rfl (pc0 := 128) (pc' := 132) rfl (hb hby at_128) (by decide) (by decide) ?_
          exact kt
        by_cases hc4 : (own_f9 p1 p3 p2 p4) = (1 : Int32)
        ·
          have k75 : ∀ t, Steps p.tables e below (T71.setTop (mkF m 142 #[.val (.int p1), .val (.int p2), .val (.int p3), .val (.int p4), .val (.int p5), .val (.int p6), .val (.int p3), .val (.int p4), .val (.ref r3), .val (.ref r8), .val (.ref b15), .val (.ref b36), .val (.int (own_f9 p1 p3 p2 p4)), .val (.int (own_f9 p3 p1 p4 p2)), .val (.long (own_f10 p1 p2)), .second, .val (.long (own_f10 p3 p4)), .second] [(.int (lcmpW (own_f10 p3 p4) (own_f10 p1 p2))), (.int (own_f9 p3 p1 p4 p2))])) t → Steps p.tables e below (s₁.setTop (entryFrame m #[(.int p1), (.int p2), (.int p3), (.int p4), (.int p5), (.int p6)] maxLocals)) t := by
            intro t kt
            refine k74 t ?_
            show Steps p.tables e below (T71.setTop (mkF m 132 #[.val (.int p1), .val (.int p2), .val (.int p3), .val (.int p4), .val (.int p5), .val (.int p6), .val (.int p3), .val (.int p4), .val (.ref r3), .val (.ref r8), .val (.ref b15), .val (.ref b36), .val (.int (own_f9 p1 p3 p2 p4)), .val (.int (own_f9 p3 p1 p4 p2)), .val (.long (own_f10 p1 p2)), .second, .val (.long (own_f10 p3 p4)), .second] [(.int (1 : Int32)), (.int (own_f9 p1 p3 p2 p4))])) _
            refine XS.icmpNo X71.here hx rfl (hb hby at_132) rfl (teq hc4).2 ?_
            show Steps p.tables e below (T71.setTop (mkF m 135 #[.val (.int p1), .val (.int p2), .val (.int p3), .val (.int p4), .val (.int p5), .val (.int p6), .val (.int p3), .val (.int p4), .val (.ref r3), .val (.ref r8), .val (.ref b15), .val (.ref b36), .val (.int (own_f9 p1 p3 p2 p4)), .val (.int (own_f9 p3 p1 p4 p2)), .val (.long (own_f10 p1 p2)), .second, .val (.long (own_f10 p3 p4)), .second] [])) _
            refine XS.iload X71.here hx rfl (hb hby at_135) rfl ?_
            show Steps p.tables e below (T71.setTop (mkF m 137 #[.val (.int p1), .val (.int p2), .val (.int p3), .val (.int p4), .val (.int p5), .val (.int p6), .val (.int p3), .val (.int p4), .val (.ref r3), .val (.ref r8), .val (.ref b15), .val (.ref b36), .val (.int (own_f9 p1 p3 p2 p4)), .val (.int (own_f9 p3 p1 p4 p2)), .val (.long (own_f10 p1 p2)), .second, .val (.long (own_f10 p3 p4)), .second] [(.int (own_f9 p3 p1 p4 p2))])) _
            refine XS.lload X71.here hx rfl (hb hby at_137) rfl ?_
            show Steps p.tables e below (T71.setTop (mkF m 139 #[.val (.int p1), .val (.int p2), .val (.int p3), .val (.int p4), .val (.int p5), .val (.int p6), .val (.int p3), .val (.int p4), .val (.ref r3), .val (.ref r8), .val (.ref b15), .val (.ref b36), .val (.int (own_f9 p1 p3 p2 p4)), .val (.int (own_f9 p3 p1 p4 p2)), .val (.long (own_f10 p1 p2)), .second, .val (.long (own_f10 p3 p4)), .second] [(.long (own_f10 p3 p4)), (.int (own_f9 p3 p1 p4 p2))])) _
            refine XS.lload X71.here hx rfl (hb hby at_139) rfl ?_
            show Steps p.tables e below (T71.setTop (mkF m 141 #[.val (.int p1), .val (.int p2), .val (.int p3), .val (.int p4), .val (.int p5), .val (.int p6), .val (.int p3), .val (.int p4), .val (.ref r3), .val (.ref r8), .val (.ref b15), .val (.ref b36), .val (.int (own_f9 p1 p3 p2 p4)), .val (.int (own_f9 p3 p1 p4 p2)), .val (.long (own_f10 p1 p2)), .second, .val (.long (own_f10 p3 p4)), .second] [(.long (own_f10 p1 p2)), (.long (own_f10 p3 p4)), (.int (own_f9 p3 p1 p4 p2))])) _
            refine XS.lcmp X71.here hx rfl (hb hby at_141) rfl ?_
            exact kt
          by_cases hc5 : (lcmpW (own_f10 p3 p4) (own_f10 p1 p2)) < (0 : Int32)
          ·
            have k76 : ∀ t, Steps p.tables e below (T71.setTop (mkF m 150 #[.val (.int p1), .val (.int p2), .val (.int p3), .val (.int p4), .val (.int p5), .val (.int p6), .val (.int p3), .val (.int p4), .val (.ref r3), .val (.ref r8), .val (.ref b15), .val (.ref b36), .val (.int (own_f9 p1 p3 p2 p4)), .val (.int (own_f9 p3 p1 p4 p2)), .val (.long (own_f10 p1 p2)), .second, .val (.long (own_f10 p3 p4)), .second] [(.int (1 : Int32)), (.int (own_f9 p3 p1 p4 p2))])) t → Steps p.tables e below (s₁.setTop (entryFrame m #[(.int p1), (.int p2), (.int p3), (.int p4), (.int p5), (.int p6)] maxLocals)) t := by
              intro t kt
              refine k75 t ?_
              show Steps p.tables e below (T71.setTop (mkF m 142 #[.val (.int p1), .val (.int p2), .val (.int p3), .val (.int p4), .val (.int p5), .val (.int p6), .val (.int p3), .val (.int p4), .val (.ref r3), .val (.ref r8), .val (.ref b15), .val (.ref b36), .val (.int (own_f9 p1 p3 p2 p4)), .val (.int (own_f9 p3 p1 p4 p2)), .val (.long (own_f10 p1 p2)), .second, .val (.long (own_f10 p3 p4)), .second] [(.int (lcmpW (own_f10 p3 p4) (own_f10 p1 p2))), (.int (own_f9 p3 p1 p4 p2))])) _
              refine XS.ifNo X71.here hx rfl (hb hby at_142) rfl ((if0 _ _).trans (tlt hc5).2.1) ?_
              show Steps p.tables e below (T71.setTop (mkF m 145 #[.val (.int p1), .val (.int p2), .val (.int p3), .val (.int p4), .val (.int p5), .val (.int p6), .val (.int p3), .val (.int p4), .val (.ref r3), .val (.ref r8), .val (.ref b15), .val (.ref b36), .val (.int (own_f9 p1 p3 p2 p4)), .val (.int (own_f9 p3 p1 p4 p2)), .val (.long (own_f10 p1 p2)), .second, .val (.long (own_f10 p3 p4)), .second] [(.int (own_f9 p3 p1 p4 p2))])) _
              refine XS.iconst X71.here hx rfl (hb hby at_145) ?_
              show Steps p.tables e below (T71.setTop (mkF m 146 #[.val (.int p1), .val (.int p2), .val (.int p3), .val (.int p4), .val (.int p5), .val (.int p6), .val (.int p3), .val (.int p4), .val (.ref r3), .val (.ref r8), .val (.ref b15), .val (.ref b36), .val (.int (own_f9 p1 p3 p2 p4)), .val (.int (own_f9 p3 p1 p4 p2)), .val (.long (own_f10 p1 p2)), .second, .val (.long (own_f10 p3 p4)), .second] [(.int (1 : Int32)), (.int (own_f9 p3 p1 p4 p2))])) _
              refine XS.goto X71.here hx rfl (pc0 := 146) (pc' := 150) rfl (hb hby at_146) (by decide) (by decide) ?_
              exact kt
            by_cases hc6 : (own_f9 p3 p1 p4 p2) = (1 : Int32)
            ·
              obtain ⟨fs, hr, hrun, hended, hE⟩ := Stand.leaveW (s := s) (vm₁ := T48.vm) X71 hS48 (by rw [e71]; exact (Nat.le_refl _)) (hlocks := hlk) (v := some (.int (1 : Int32))) (fun h => by rw [Bd.returns] at h; cases h)
              refine ⟨_, _, k76 _ ?_, hrun, hended, _, _, rfl, ?_, hE.1, hE.2.1, hE.2.2.1, hE.2.2.2.mono (by decide) (by decide)⟩
              · show Steps p.tables e below (T71.setTop (mkF m 150 #[.val (.int p1), .val (.int p2), .val (.int p3), .val (.int p4), .val (.int p5), .val (.int p6), .val (.int p3), .val (.int p4), .val (.ref r3), .val (.ref r8), .val (.ref b15), .val (.ref b36), .val (.int (own_f9 p1 p3 p2 p4)), .val (.int (own_f9 p3 p1 p4 p2)), .val (.long (own_f10 p1 p2)), .second, .val (.long (own_f10 p3 p4)), .second] [(.int (1 : Int32)), (.int (own_f9 p3 p1 p4 p2))])) _
                refine XS.icmpNo X71.here hx rfl (hb hby at_150) rfl (teq hc6).2 ?_
                show Steps p.tables e below (T71.setTop (mkF m 153 #[.val (.int p1), .val (.int p2), .val (.int p3), .val (.int p4), .val (.int p5), .val (.int p6), .val (.int p3), .val (.int p4), .val (.ref r3), .val (.ref r8), .val (.ref b15), .val (.ref b36), .val (.int (own_f9 p1 p3 p2 p4)), .val (.int (own_f9 p3 p1 p4 p2)), .val (.long (own_f10 p1 p2)), .second, .val (.long (own_f10 p3 p4)), .second] [])) _
                refine XS.iconst X71.here hx rfl (hb hby at_153) ?_
                show Steps p.tables e below (T71.setTop (mkF m 154 #[.val (.int p1), .val (.int p2), .val (.int p3), .val (.int p4), .val (.int p5), .val (.int p6), .val (.int p3), .val (.int p4), .val (.ref r3), .val (.ref r8), .val (.ref b15), .val (.ref b36), .val (.int (own_f9 p1 p3 p2 p4)), .val (.int (own_f9 p3 p1 p4 p2)), .val (.long (own_f10 p1 p2)), .second, .val (.long (own_f10 p3 p4)), .second] [(.int (1 : Int32))])) _
                refine XS.goto X71.here hx rfl (pc0 := 154) (pc' := 158) rfl (hb hby at_154) (by decide) (by decide) ?_
                show Steps p.tables e below (T71.setTop (mkF m 158 #[.val (.int p1), .val (.int p2), .val (.int p3), .val (.int p4), .val (.int p5), .val (.int p6), .val (.int p3), .val (.int p4), .val (.ref r3), .val (.ref r8), .val (.ref b15), .val (.ref b36), .val (.int (own_f9 p1 p3 p2 p4)), .val (.int (own_f9 p3 p1 p4 p2)), .val (.long (own_f10 p1 p2)), .second, .val (.long (own_f10 p3 p4)), .second] [(.int (1 : Int32))])) _
                exact retN X71 hx (t := .boolean) Bd.returns (by simp) (hb hby at_158) hr
              · show own_Q0 Z p1 p2 p3 p4 p5 p6 w_COMPACT_STRINGS h0 n0 _ T71.heap _
                rw [e71]
                exact ⟨(by rw [own_f0, if_pos hc1, if_pos hc2, if_pos hc3, if_pos hc4, if_pos hc5, if_pos hc6]), N72⟩
            ·
              obtain ⟨fs, hr, hrun, hended, hE⟩ := Stand.leaveW (s := s) (vm₁ := T48.vm) X71 hS48 (by rw [e71]; exact (Nat.le_refl _)) (hlocks := hlk) (v := some (.int (0 : Int32))) (fun h => by rw [Bd.returns] at h; cases h)
              refine ⟨_, _, k76 _ ?_, hrun, hended, _, _, rfl, ?_, hE.1, hE.2.1, hE.2.2.1, hE.2.2.2.mono (by decide) (by decide)⟩
              · show Steps p.tables e below (T71.setTop (mkF m 150 #[.val (.int p1), .val (.int p2), .val (.int p3), .val (.int p4), .val (.int p5), .val (.int p6), .val (.int p3), .val (.int p4), .val (.ref r3), .val (.ref r8), .val (.ref b15), .val (.ref b36), .val (.int (own_f9 p1 p3 p2 p4)), .val (.int (own_f9 p3 p1 p4 p2)), .val (.long (own_f10 p1 p2)), .second, .val (.long (own_f10 p3 p4)), .second] [(.int (1 : Int32)), (.int (own_f9 p3 p1 p4 p2))])) _
                refine XS.icmpYes X71.here hx rfl (pc0 := 150) (pc' := 157) rfl (hb hby at_150) rfl (feq hc6).2 (by decide) (by decide) ?_
                show Steps p.tables e below (T71.setTop (mkF m 157 #[.val (.int p1), .val (.int p2), .val (.int p3), .val (.int p4), .val (.int p5), .val (.int p6), .val (.int p3), .val (.int p4), .val (.ref r3), .val (.ref r8), .val (.ref b15), .val (.ref b36), .val (.int (own_f9 p1 p3 p2 p4)), .val (.int (own_f9 p3 p1 p4 p2)), .val (.long (own_f10 p1 p2)), .second, .val (.long (own_f10 p3 p4)), .second] [])) _
                refine XS.iconst X71.here hx rfl (hb hby at_157) ?_
                show Steps p.tables e below (T71.setTop (mkF m 158 #[.val (.int p1), .val (.int p2), .val (.int p3), .val (.int p4), .val (.int p5), .val (.int p6), .val (.int p3), .val (.int p4), .val (.ref r3), .val (.ref r8), .val (.ref b15), .val (.ref b36), .val (.int (own_f9 p1 p3 p2 p4)), .val (.int (own_f9 p3 p1 p4 p2)), .val (.long (own_f10 p1 p2)), .second, .val (.long (own_f10 p3 p4)), .second] [(.int (0 : Int32))])) _
                exact retN X71 hx (t := .boolean) Bd.returns (by simp) (hb hby at_158) hr
              · show own_Q0 Z p1 p2 p3 p4 p5 p6 w_COMPACT_STRINGS h0 n0 _ T71.heap _
                rw [e71]
                exact ⟨(by rw [own_f0, if_pos hc1, if_pos hc2, if_pos hc3, if_pos hc4, if_pos hc5, if_neg hc6]), N72⟩
          ·
            have k77 : ∀ t, Steps p.tables e below (T71.setTop (mkF m 150 #[.val (.int p1), .val (.int p2), .val (.int p3), .val (.int p4), .val (.int p5), .val (.int p6), .val (.int p3), .val (.int p4), .val (.ref r3), .val (.ref r8), .val (.ref b15), .val (.ref b36), .val (.int (own_f9 p1 p3 p2 p4)), .val (.int (own_f9 p3 p1 p4 p2)), .val (.long (own_f10 p1 p2)), .second, .val (.long (own_f10 p3 p4)), .second] [(.int (0 : Int32)), (.int (own_f9 p3 p1 p4 p2))])) t → Steps p.tables e below (s₁.setTop (entryFrame m #[(.int p1), (.int p2), (.int p3), (.int p4), (.int p5), (.int p6)] maxLocals)) t := by
              intro t kt
              refine k75 t ?_
              show Steps p.tables e below (T71.setTop (mkF m 142 #[.val (.int p1), .val (.int p2), .val (.int p3), .val (.int p4), .val (.int p5), .val (.int p6), .val (.int p3), .val (.int p4), .val (.ref r3), .val (.ref r8), .val (.ref b15), .val (.ref b36), .val (.int (own_f9 p1 p3 p2 p4)), .val (.int (own_f9 p3 p1 p4 p2)), .val (.long (own_f10 p1 p2)), .second, .val (.long (own_f10 p3 p4)), .second] [(.int (lcmpW (own_f10 p3 p4) (own_f10 p1 p2))), (.int (own_f9 p3 p1 p4 p2))])) _
              refine XS.ifYes X71.here hx rfl (pc0 := 142) (pc' := 149) rfl (hb hby at_142) rfl ((if0 _ _).trans (flt hc5).2.1) (by decide) (by decide) ?_
              show Steps p.tables e below (T71.setTop (mkF m 149 #[.val (.int p1), .val (.int p2), .val (.int p3), .val (.int p4), .val (.int p5), .val (.int p6), .val (.int p3), .val (.int p4), .val (.ref r3), .val (.ref r8), .val (.ref b15), .val (.ref b36), .val (.int (own_f9 p1 p3 p2 p4)), .val (.int (own_f9 p3 p1 p4 p2)), .val (.long (own_f10 p1 p2)), .second, .val (.long (own_f10 p3 p4)), .second] [(.int (own_f9 p3 p1 p4 p2))])) _
              refine XS.iconst X71.here hx rfl (hb hby at_149) ?_
              exact kt
            by_cases hc7 : (own_f9 p3 p1 p4 p2) = (0 : Int32)
            ·
              obtain ⟨fs, hr, hrun, hended, hE⟩ := Stand.leaveW (s := s) (vm₁ := T48.vm) X71 hS48 (by rw [e71]; exact (Nat.le_refl _)) (hlocks := hlk) (v := some (.int (1 : Int32))) (fun h => by rw [Bd.returns] at h; cases h)
              refine ⟨_, _, k77 _ ?_, hrun, hended, _, _, rfl, ?_, hE.1, hE.2.1, hE.2.2.1, hE.2.2.2.mono (by decide) (by decide)⟩
              · show Steps p.tables e below (T71.setTop (mkF m 150 #[.val (.int p1), .val (.int p2), .val (.int p3), .val (.int p4), .val (.int p5), .val (.int p6), .val (.int p3), .val (.int p4), .val (.ref r3), .val (.ref r8), .val (.ref b15), .val (.ref b36), .val (.int (own_f9 p1 p3 p2 p4)), .val (.int (own_f9 p3 p1 p4 p2)), .val (.long (own_f10 p1 p2)), .second, .val (.long (own_f10 p3 p4)), .second] [(.int (0 : Int32)), (.int (own_f9 p3 p1 p4 p2))])) _
                refine XS.icmpNo X71.here hx rfl (hb hby at_150) rfl (teq hc7).2 ?_
                show Steps p.tables e below (T71.setTop (mkF m 153 #[.val (.int p1), .val (.int p2), .val (.int p3), .val (.int p4), .val (.int p5), .val (.int p6), .val (.int p3), .val (.int p4), .val (.ref r3), .val (.ref r8), .val (.ref b15), .val (.ref b36), .val (.int (own_f9 p1 p3 p2 p4)), .val (.int (own_f9 p3 p1 p4 p2)), .val (.long (own_f10 p1 p2)), .second, .val (.long (own_f10 p3 p4)), .second] [])) _
                refine XS.iconst X71.here hx rfl (hb hby at_153) ?_
                show Steps p.tables e below (T71.setTop (mkF m 154 #[.val (.int p1), .val (.int p2), .val (.int p3), .val (.int p4), .val (.int p5), .val (.int p6), .val (.int p3), .val (.int p4), .val (.ref r3), .val (.ref r8), .val (.ref b15), .val (.ref b36), .val (.int (own_f9 p1 p3 p2 p4)), .val (.int (own_f9 p3 p1 p4 p2)), .val (.long (own_f10 p1 p2)), .second, .val (.long (own_f10 p3 p4)), .second] [(.int (1 : Int32))])) _
                refine XS.goto X71.here hx rfl (pc0 := 154) (pc' := 158) rfl (hb hby at_154) (by decide) (by decide) ?_
                show Steps p.tables e below (T71.setTop (mkF m 158 #[.val (.int p1), .val (.int p2), .val (.int p3), .val (.int p4), .val (.int p5), .val (.int p6), .val (.int p3), .val (.int p4), .val (.ref r3), .val (.ref r8), .val (.ref b15), .val (.ref b36), .val (.int (own_f9 p1 p3 p2 p4)), .val (.int (own_f9 p3 p1 p4 p2)), .val (.long (own_f10 p1 p2)), .second, .val (.long (own_f10 p3 p4)), .second] [(.int (1 : Int32))])) _
                exact retN X71 hx (t := .boolean) Bd.returns (by simp) (hb hby at_158) hr
              · show own_Q0 Z p1 p2 p3 p4 p5 p6 w_COMPACT_STRINGS h0 n0 _ T71.heap _
                rw [e71]
                exact ⟨(by rw [own_f0, if_pos hc1, if_pos hc2, if_pos hc3, if_pos hc4, if_neg hc5, if_pos hc7]), N72⟩
            ·
              obtain ⟨fs, hr, hrun, hended, hE⟩ := Stand.leaveW (s := s) (vm₁ := T48.vm) X71 hS48 (by rw [e71]; exact (Nat.le_refl _)) (hlocks := hlk) (v := some (.int (0 : Int32))) (fun h => by rw [Bd.returns] at h; cases h)
              refine ⟨_, _, k77 _ ?_, hrun, hended, _, _, rfl, ?_, hE.1, hE.2.1, hE.2.2.1, hE.2.2.2.mono (by decide) (by decide)⟩
              · show Steps p.tables e below (T71.setTop (mkF m 150 #[.val (.int p1), .val (.int p2), .val (.int p3), .val (.int p4), .val (.int p5), .val (.int p6), .val (.int p3), .val (.int p4), .val (.ref r3), .val (.ref r8), .val (.ref b15), .val (.ref b36), .val (.int (own_f9 p1 p3 p2 p4)), .val (.int (own_f9 p3 p1 p4 p2)), .val (.long (own_f10 p1 p2)), .second, .val (.long (own_f10 p3 p4)), .second] [(.int (0 : Int32)), (.int (own_f9 p3 p1 p4 p2))])) _
                refine XS.icmpYes X71.here hx rfl (pc0 := 150) (pc' := 157) rfl (hb hby at_150) rfl (feq hc7).2 (by decide) (by decide) ?_
                show Steps p.tables e below (T71.setTop (mkF m 157 #[.val (.int p1), .val (.int p2), .val (.int p3), .val (.int p4), .val (.int p5), .val (.int p6), .val (.int p3), .val (.int p4), .val (.ref r3), .val (.ref r8), .val (.ref b15), .val (.ref b36), .val (.int (own_f9 p1 p3 p2 p4)), .val (.int (own_f9 p3 p1 p4 p2)), .val (.long (own_f10 p1 p2)), .second, .val (.long (own_f10 p3 p4)), .second] [])) _
                refine XS.iconst X71.here hx rfl (hb hby at_157) ?_
                show Steps p.tables e below (T71.setTop (mkF m 158 #[.val (.int p1), .val (.int p2), .val (.int p3), .val (.int p4), .val (.int p5), .val (.int p6), .val (.int p3), .val (.int p4), .val (.ref r3), .val (.ref r8), .val (.ref b15), .val (.ref b36), .val (.int (own_f9 p1 p3 p2 p4)), .val (.int (own_f9 p3 p1 p4 p2)), .val (.long (own_f10 p1 p2)), .second, .val (.long (own_f10 p3 p4)), .second] [(.int (0 : Int32))])) _
                exact retN X71 hx (t := .boolean) Bd.returns (by simp) (hb hby at_158) hr
              · show own_Q0 Z p1 p2 p3 p4 p5 p6 w_COMPACT_STRINGS h0 n0 _ T71.heap _
                rw [e71]
                exact ⟨(by rw [own_f0, if_pos hc1, if_pos hc2, if_pos hc3, if_pos hc4, if_neg hc5, if_neg hc7]), N72⟩
        ·
          obtain ⟨fs, hr, hrun, hended, hE⟩ := Stand.leaveW (s := s) (vm₁ := T48.vm) X71 hS48 (by rw [e71]; exact (Nat.le_refl _)) (hlocks := hlk) (v := some (.int (0 : Int32))) (fun h => by rw [Bd.returns] at h; cases h)
          refine ⟨_, _, k74 _ ?_, hrun, hended, _, _, rfl, ?_, hE.1, hE.2.1, hE.2.2.1, hE.2.2.2.mono (by decide) (by decide)⟩
          · show Steps p.tables e below (T71.setTop (mkF m 132 #[.val (.int p1), .val (.int p2), .val (.int p3), .val (.int p4), .val (.int p5), .val (.int p6), .val (.int p3), .val (.int p4), .val (.ref r3), .val (.ref r8), .val (.ref b15), .val (.ref b36), .val (.int (own_f9 p1 p3 p2 p4)), .val (.int (own_f9 p3 p1 p4 p2)), .val (.long (own_f10 p1 p2)), .second, .val (.long (own_f10 p3 p4)), .second] [(.int (1 : Int32)), (.int (own_f9 p1 p3 p2 p4))])) _
            refine XS.icmpYes X71.here hx rfl (pc0 := 132) (pc' := 157) rfl (hb hby at_132) rfl (feq hc4).2 (by decide) (by decide) ?_
            show Steps p.tables e below (T71.setTop (mkF m 157 #[.val (.int p1), .val (.int p2), .val (.int p3), .val (.int p4), .val (.int p5), .val (.int p6), .val (.int p3), .val (.int p4), .val (.ref r3), .val (.ref r8), .val (.ref b15), .val (.ref b36), .val (.int (own_f9 p1 p3 p2 p4)), .val (.int (own_f9 p3 p1 p4 p2)), .val (.long (own_f10 p1 p2)), .second, .val (.long (own_f10 p3 p4)), .second] [])) _
            refine XS.iconst X71.here hx rfl (hb hby at_157) ?_
            show Steps p.tables e below (T71.setTop (mkF m 158 #[.val (.int p1), .val (.int p2), .val (.int p3), .val (.int p4), .val (.int p5), .val (.int p6), .val (.int p3), .val (.int p4), .val (.ref r3), .val (.ref r8), .val (.ref b15), .val (.ref b36), .val (.int (own_f9 p1 p3 p2 p4)), .val (.int (own_f9 p3 p1 p4 p2)), .val (.long (own_f10 p1 p2)), .second, .val (.long (own_f10 p3 p4)), .second] [(.int (0 : Int32))])) _
            exact retN X71 hx (t := .boolean) Bd.returns (by simp) (hb hby at_158) hr
          · show own_Q0 Z p1 p2 p3 p4 p5 p6 w_COMPACT_STRINGS h0 n0 _ T71.heap _
            rw [e71]
            exact ⟨(by rw [own_f0, if_pos hc1, if_pos hc2, if_pos hc3, if_neg hc4]), N72⟩
      ·
        have k78 : ∀ t, Steps p.tables e below (T71.setTop (mkF m 132 #[.val (.int p1), .val (.int p2), .val (.int p3), .val (.int p4), .val (.int p5), .val (.int p6), .val (.int p3), .val (.int p4), .val (.ref r3), .val (.ref r8), .val (.ref b15), .val (.ref b36), .val (.int (own_f9 p1 p3 p2 p4)), .val (.int (own_f9 p3 p1 p4 p2)), .val (.long (own_f10 p1 p2)), .second, .val (.long (own_f10 p3 p4)), .second] [(.int (0 : Int32)), (.int (own_f9 p1 p3 p2 p4))])) t → Steps p.tables e below (s₁.setTop (entryFrame m #[(.int p1), (.int p2), (.int p3), (.int p4), (.int p5), (.int p6)] maxLocals)) t := by
          intro t kt
          refine k73 t ?_
          show Steps p.tables e below (T71.setTop (mkF m 124 #[.val (.int p1), .val (.int p2), .val (.int p3), .val (.int p4), .val (.int p5), .val (.int p6), .val (.int p3), .val (.int p4), .val (.ref r3), .val (.ref r8), .val (.ref b15), .val (.ref b36), .val (.int (own_f9 p1 p3 p2 p4)), .val (.int (own_f9 p3 p1 p4 p2)), .val (.long (own_f10 p1 p2)), .second, .val (.long (own_f10 p3 p4)), .second] [(.int (lcmpW (own_f10 p1 p2) (own_f10 p3 p4))), (.int (own_f9 p1 p3 p2 p4))])) _
          refine XS.ifYes X71.here hx rfl (pc0 := 124) (pc' := 131) rfl (hb hby at_124) rfl ((if0 _ _).trans (flt hc3).2.1) (by decide) (by decide) ?_
          show Steps p.tables e below (T71.setTop (mkF m 131 #[.val (.int p1), .val (.int p2), .val (.int p3), .val (.int p4), .val (.int p5), .val (.int p6), .val (.int p3), .val (.int p4), .val (.ref r3), .val (.ref r8), .val (.ref b15), .val (.ref b36), .val (.int (own_f9 p1 p3 p2 p4)), .val (.int (own_f9 p3 p1 p4 p2)), .val (.long (own_f10 p1 p2)), .second, .val (.long (own_f10 p3 p4)), .second] [(.int (own_f9 p1 p3 p2 p4))])) _
          refine XS.iconst X71.here hx rfl (hb hby at_131) ?_
          exact kt
        by_cases hc8 : (own_f9 p1 p3 p2 p4) = (0 : Int32)
        ·
          have k79 : ∀ t, Steps p.tables e below (T71.setTop (mkF m 142 #[.val (.int p1), .val (.int p2), .val (.int p3), .val (.int p4), .val (.int p5), .val (.int p6), .val (.int p3), .val (.int p4), .val (.ref r3), .val (.ref r8), .val (.ref b15), .val (.ref b36), .val (.int (own_f9 p1 p3 p2 p4)), .val (.int (own_f9 p3 p1 p4 p2)), .val (.long (own_f10 p1 p2)), .second, .val (.long (own_f10 p3 p4)), .second] [(.int (lcmpW (own_f10 p3 p4) (own_f10 p1 p2))), (.int (own_f9 p3 p1 p4 p2))])) t → Steps p.tables e below (s₁.setTop (entryFrame m #[(.int p1), (.int p2), (.int p3), (.int p4), (.int p5), (.int p6)] maxLocals)) t := by
            intro t kt
            refine k78 t ?_
            show Steps p.tables e below (T71.setTop (mkF m 132 #[.val (.int p1), .val (.int p2), .val (.int p3), .val (.int p4), .val (.int p5), .val (.int p6), .val (.int p3), .val (.int p4), .val (.ref r3), .val (.ref r8), .val (.ref b15), .val (.ref b36), .val (.int (own_f9 p1 p3 p2 p4)), .val (.int (own_f9 p3 p1 p4 p2)), .val (.long (own_f10 p1 p2)), .second, .val (.long (own_f10 p3 p4)), .second] [(.int (0 : Int32)), (.int (own_f9 p1 p3 p2 p4))])) _
            refine XS.icmpNo X71.here hx rfl (hb hby at_132) rfl (teq hc8).2 ?_
            show Steps p.tables e below (T71.setTop (mkF m 135 #[.val (.int p1), .val (.int p2), .val (.int p3), .val (.int p4), .val (.int p5), .val (.int p6), .val (.int p3), .val (.int p4), .val (.ref r3), .val (.ref r8), .val (.ref b15), .val (.ref b36), .val (.int (own_f9 p1 p3 p2 p4)), .val (.int (own_f9 p3 p1 p4 p2)), .val (.long (own_f10 p1 p2)), .second, .val (.long (own_f10 p3 p4)), .second] [])) _
            refine XS.iload X71.here hx rfl (hb hby at_135) rfl ?_
            show Steps p.tables e below (T71.setTop (mkF m 137 #[.val (.int p1), .val (.int p2), .val (.int p3), .val (.int p4), .val (.int p5), .val (.int p6), .val (.int p3), .val (.int p4), .val (.ref r3), .val (.ref r8), .val (.ref b15), .val (.ref b36), .val (.int (own_f9 p1 p3 p2 p4)), .val (.int (own_f9 p3 p1 p4 p2)), .val (.long (own_f10 p1 p2)), .second, .val (.long (own_f10 p3 p4)), .second] [(.int (own_f9 p3 p1 p4 p2))])) _
            refine XS.lload X71.here hx rfl (hb hby at_137) rfl ?_
            show Steps p.tables e below (T71.setTop (mkF m 139 #[.val (.int p1), .val (.int p2), .val (.int p3), .val (.int p4), .val (.int p5), .val (.int p6), .val (.int p3), .val (.int p4), .val (.ref r3), .val (.ref r8), .val (.ref b15), .val (.ref b36), .val (.int (own_f9 p1 p3 p2 p4)), .val (.int (own_f9 p3 p1 p4 p2)), .val (.long (own_f10 p1 p2)), .second, .val (.long (own_f10 p3 p4)), .second] [(.long (own_f10 p3 p4)), (.int (own_f9 p3 p1 p4 p2))])) _
            refine XS.lload X71.here hx rfl (hb hby at_139) rfl ?_
            show Steps p.tables e below (T71.setTop (mkF m 141 #[.val (.int p1), .val (.int p2), .val (.int p3), .val (.int p4), .val (.int p5), .val (.int p6), .val (.int p3), .val (.int p4), .val (.ref r3), .val (.ref r8), .val (.ref b15), .val (.ref b36), .val (.int (own_f9 p1 p3 p2 p4)), .val (.int (own_f9 p3 p1 p4 p2)), .val (.long (own_f10 p1 p2)), .second, .val (.long (own_f10 p3 p4)), .second] [(.long (own_f10 p1 p2)), (.long (own_f10 p3 p4)), (.int (own_f9 p3 p1 p4 p2))])) _
            refine XS.lcmp X71.here hx rfl (hb hby at_141) rfl ?_
            exact kt
          by_cases hc9 : (lcmpW (own_f10 p3 p4) (own_f10 p1 p2)) < (0 : Int32)
          ·
            have k80 : ∀ t, Steps p.tables e below (T71.setTop (mkF m 150 #[.val (.int p1), .val (.int p2), .val (.int p3), .val (.int p4), .val (.int p5), .val (.int p6), .val (.int p3), .val (.int p4), .val (.ref r3), .val (.ref r8), .val (.ref b15), .val (.ref b36), .val (.int (own_f9 p1 p3 p2 p4)), .val (.int (own_f9 p3 p1 p4 p2)), .val (.long (own_f10 p1 p2)), .second, .val (.long (own_f10 p3 p4)), .second] [(.int (1 : Int32)), (.int (own_f9 p3 p1 p4 p2))])) t → Steps p.tables e below (s₁.setTop (entryFrame m #[(.int p1), (.int p2), (.int p3), (.int p4), (.int p5), (.int p6)] maxLocals)) t := by
              intro t kt
              refine k79 t ?_
              show Steps p.tables e below (T71.setTop (mkF m 142 #[.val (.int p1), .val (.int p2), .val (.int p3), .val (.int p4), .val (.int p5), .val (.int p6), .val (.int p3), .val (.int p4), .val (.ref r3), .val (.ref r8), .val (.ref b15), .val (.ref b36), .val (.int (own_f9 p1 p3 p2 p4)), .val (.int (own_f9 p3 p1 p4 p2)), .val (.long (own_f10 p1 p2)), .second, .val (.long (own_f10 p3 p4)), .second] [(.int (lcmpW (own_f10 p3 p4) (own_f10 p1 p2))), (.int (own_f9 p3 p1 p4 p2))])) _
              refine XS.ifNo X71.here hx rfl (hb hby at_142) rfl ((if0 _ _).trans (tlt hc9).2.1) ?_
              show Steps p.tables e below (T71.setTop (mkF m 145 #[.val (.int p1), .val (.int p2), .val (.int p3), .val (.int p4), .val (.int p5), .val (.int p6), .val (.int p3), .val (.int p4), .val (.ref r3), .val (.ref r8), .val (.ref b15), .val (.ref b36), .val (.int (own_f9 p1 p3 p2 p4)), .val (.int (own_f9 p3 p1 p4 p2)), .val (.long (own_f10 p1 p2)), .second, .val (.long (own_f10 p3 p4)), .second] [(.int (own_f9 p3 p1 p4 p2))])) _
              refine XS.iconst X71.here hx rfl (hb hby at_145) ?_
              show Steps p.tables e below (T71.setTop (mkF m 146 #[.val (.int p1), .val (.int p2), .val (.int p3), .val (.int p4), .val (.int p5), .val (.int p6), .val (.int p3), .val (.int p4), .val (.ref r3), .val (.ref r8), .val (.ref b15), .val (.ref b36), .val (.int (own_f9 p1 p3 p2 p4)), .val (.int (own_f9 p3 p1 p4 p2)), .val (.long (own_f10 p1 p2)), .second, .val (.long (own_f10 p3 p4)), .second] [(.int (1 : Int32)), (.int (own_f9 p3 p1 p4 p2))])) _
              refine XS.goto X71.here hx rfl (pc0 := 146) (pc' := 150) rfl (hb hby at_146) (by decide) (by decide) ?_
              exact kt
            by_cases hc10 : (own_f9 p3 p1 p4 p2) = (1 : Int32)
            ·
              obtain ⟨fs, hr, hrun, hended, hE⟩ := Stand.leaveW (s := s) (vm₁ := T48.vm) X71 hS48 (by rw [e71]; exact (Nat.le_refl _)) (hlocks := hlk) (v := some (.int (1 : Int32))) (fun h => by rw [Bd.returns] at h; cases h)
              refine ⟨_, _, k80 _ ?_, hrun, hended, _, _, rfl, ?_, hE.1, hE.2.1, hE.2.2.1, hE.2.2.2.mono (by decide) (by decide)⟩
              · show Steps p.tables e below (T71.setTop (mkF m 150 #[.val (.int p1), .val (.int p2), .val (.int p3), .val (.int p4), .val (.int p5), .val (.int p6), .val (.int p3), .val (.int p4), .val (.ref r3), .val (.ref r8), .val (.ref b15), .val (.ref b36), .val (.int (own_f9 p1 p3 p2 p4)), .val (.int (own_f9 p3 p1 p4 p2)), .val (.long (own_f10 p1 p2)), .second, .val (.long (own_f10 p3 p4)), .second] [(.int (1 : Int32)), (.int (own_f9 p3 p1 p4 p2))])) _
                refine XS.icmpNo X71.here hx rfl (hb hby at_150) rfl (teq hc10).2 ?_
                show Steps p.tables e below (T71.setTop (mkF m 153 #[.val (.int p1), .val (.int p2), .val (.int p3), .val (.int p4), .val (.int p5), .val (.int p6), .val (.int p3), .val (.int p4), .val (.ref r3), .val (.ref r8), .val (.ref b15), .val (.ref b36), .val (.int (own_f9 p1 p3 p2 p4)), .val (.int (own_f9 p3 p1 p4 p2)), .val (.long (own_f10 p1 p2)), .second, .val (.long (own_f10 p3 p4)), .second] [])) _
                refine XS.iconst X71.here hx rfl (hb hby at_153) ?_
                show Steps p.tables e below (T71.setTop (mkF m 154 #[.val (.int p1), .val (.int p2), .val (.int p3), .val (.int p4), .val (.int p5), .val (.int p6), .val (.int p3), .val (.int p4), .val (.ref r3), .val (.ref r8), .val (.ref b15), .val (.ref b36), .val (.int (own_f9 p1 p3 p2 p4)), .val (.int (own_f9 p3 p1 p4 p2)), .val (.long (own_f10 p1 p2)), .second, .val (.long (own_f10 p3 p4)), .second] [(.int (1 : Int32))])) _
                refine XS.goto X71.here hx rfl (pc0 := 154) (pc' := 158) rfl (hb hby at_154) (by decide) (by decide) ?_
                show Steps p.tables e below (T71.setTop (mkF m 158 #[.val (.int p1), .val (.int p2), .val (.int p3), .val (.int p4), .val (.int p5), .val (.int p6), .val (.int p3), .val (.int p4), .val (.ref r3), .val (.ref r8), .val (.ref b15), .val (.ref b36), .val (.int (own_f9 p1 p3 p2 p4)), .val (.int (own_f9 p3 p1 p4 p2)), .val (.long (own_f10 p1 p2)), .second, .val (.long (own_f10 p3 p4)), .second] [(.int (1 : Int32))])) _
                exact retN X71 hx (t := .boolean) Bd.returns (by simp) (hb hby at_158) hr
              · show own_Q0 Z p1 p2 p3 p4 p5 p6 w_COMPACT_STRINGS h0 n0 _ T71.heap _
                rw [e71]
                exact ⟨(by rw [own_f0, if_pos hc1, if_pos hc2, if_neg hc3, if_pos hc8, if_pos hc9, if_pos hc10]), N72⟩
            ·
              obtain ⟨fs, hr, hrun, hended, hE⟩ := Stand.leaveW (s := s) (vm₁ := T48.vm) X71 hS48 (by rw [e71]; exact (Nat.le_refl _)) (hlocks := hlk) (v := some (.int (0 : Int32))) (fun h => by rw [Bd.returns] at h; cases h)
              refine ⟨_, _, k80 _ ?_, hrun, hended, _, _, rfl, ?_, hE.1, hE.2.1, hE.2.2.1, hE.2.2.2.mono (by decide) (by decide)⟩
              · show Steps p.tables e below (T71.setTop (mkF m 150 #[.val (.int p1), .val (.int p2), .val (.int p3), .val (.int p4), .val (.int p5), .val (.int p6), .val (.int p3), .val (.int p4), .val (.ref r3), .val (.ref r8), .val (.ref b15), .val (.ref b36), .val (.int (own_f9 p1 p3 p2 p4)), .val (.int (own_f9 p3 p1 p4 p2)), .val (.long (own_f10 p1 p2)), .second, .val (.long (own_f10 p3 p4)), .second] [(.int (1 : Int32)), (.int (own_f9 p3 p1 p4 p2))])) _
                refine XS.icmpYes X71.here hx rfl (pc0 := 150) (pc' := 157) rfl (hb hby at_150) rfl (feq hc10).2 (by decide) (by decide) ?_
                show Steps p.tables e below (T71.setTop (mkF m 157 #[.val (.int p1), .val (.int p2), .val (.int p3), .val (.int p4), .val (.int p5), .val (.int p6), .val (.int p3), .val (.int p4), .val (.ref r3), .val (.ref r8), .val (.ref b15), .val (.ref b36), .val (.int (own_f9 p1 p3 p2 p4)), .val (.int (own_f9 p3 p1 p4 p2)), .val (.long (own_f10 p1 p2)), .second, .val (.long (own_f10 p3 p4)), .second] [])) _
                refine XS.iconst X71.here hx rfl (hb hby at_157) ?_
                show Steps p.tables e below (T71.setTop (mkF m 158 #[.val (.int p1), .val (.int p2), .val (.int p3), .val (.int p4), .val (.int p5), .val (.int p6), .val (.int p3), .val (.int p4), .val (.ref r3), .val (.ref r8), .val (.ref b15), .val (.ref b36), .val (.int (own_f9 p1 p3 p2 p4)), .val (.int (own_f9 p3 p1 p4 p2)), .val (.long (own_f10 p1 p2)), .second, .val (.long (own_f10 p3 p4)), .second] [(.int (0 : Int32))])) _
                exact retN X71 hx (t := .boolean) Bd.returns (by simp) (hb hby at_158) hr
              · show own_Q0 Z p1 p2 p3 p4 p5 p6 w_COMPACT_STRINGS h0 n0 _ T71.heap _
                rw [e71]
                exact ⟨(by rw [own_f0, if_pos hc1, if_pos hc2, if_neg hc3, if_pos hc8, if_pos hc9, if_neg hc10]), N72⟩
          ·
            have k81 : ∀ t, Steps p.tables e below (T71.setTop (mkF m 150 #[.val (.int p1), .val (.int p2), .val (.int p3), .val (.int p4), .val (.int p5), .val (.int p6), .val (.int p3), .val (.int p4), .val (.ref r3), .val (.ref r8), .val (.ref b15), .val (.ref b36), .val (.int (own_f9 p1 p3 p2 p4)), .val (.int (own_f9 p3 p1 p4 p2)), .val (.long (own_f10 p1 p2)), .second, .val (.long (own_f10 p3 p4)), .second] [(.int (0 : Int32)), (.int (own_f9 p3 p1 p4 p2))])) t → Steps p.tables e below (s₁.setTop (entryFrame m #[(.int p1), (.int p2), (.int p3), (.int p4), (.int p5), (.int p6)] maxLocals)) t := by
              intro t kt
              refine k79 t ?_
              show Steps p.tables e below (T71.setTop (mkF m 142 #[.val (.int p1), .val (.int p2), .val (.int p3), .val (.int p4), .val (.int p5), .val (.int p6), .val (.int p3), .val (.int p4), .val (.ref r3), .val (.ref r8), .val (.ref b15), .val (.ref b36), .val (.int (own_f9 p1 p3 p2 p4)), .val (.int (own_f9 p3 p1 p4 p2)), .val (.long (own_f10 p1 p2)), .second, .val (.long (own_f10 p3 p4)), .second] [(.int (lcmpW (own_f10 p3 p4) (own_f10 p1 p2))), (.int (own_f9 p3 p1 p4 p2))])) _
              refine XS.ifYes X71.here hx rfl (pc0 := 142) (pc' := 149) rfl (hb hby at_142) rfl ((if0 _ _).trans (flt hc9).2.1) (by decide) (by decide) ?_
              show Steps p.tables e below (T71.setTop (mkF m 149 #[.val (.int p1), .val (.int p2), .val (.int p3), .val (.int p4), .val (.int p5), .val (.int p6), .val (.int p3), .val (.int p4), .val (.ref r3), .val (.ref r8), .val (.ref b15), .val (.ref b36), .val (.int (own_f9 p1 p3 p2 p4)), .val (.int (own_f9 p3 p1 p4 p2)), .val (.long (own_f10 p1 p2)), .second, .val (.long (own_f10 p3 p4)), .second] [(.int (own_f9 p3 p1 p4 p2))])) _
              refine XS.iconst X71.here hx rfl (hb hby at_149) ?_
              exact kt
            by_cases hc11 : (own_f9 p3 p1 p4 p2) = (0 : Int32)
            ·
              obtain ⟨fs, hr, hrun, hended, hE⟩ := Stand.leaveW (s := s) (vm₁ := T48.vm) X71 hS48 (by rw [e71]; exact (Nat.le_refl _)) (hlocks := hlk) (v := some (.int (1 : Int32))) (fun h => by rw [Bd.returns] at h; cases h)
              refine ⟨_, _, k81 _ ?_, hrun, hended, _, _, rfl, ?_, hE.1, hE.2.1, hE.2.2.1, hE.2.2.2.mono (by decide) (by decide)⟩
              · show Steps p.tables e below (T71.setTop (mkF m 150 #[.val (.int p1), .val (.int p2), .val (.int p3), .val (.int p4), .val (.int p5), .val (.int p6), .val (.int p3), .val (.int p4), .val (.ref r3), .val (.ref r8), .val (.ref b15), .val (.ref b36), .val (.int (own_f9 p1 p3 p2 p4)), .val (.int (own_f9 p3 p1 p4 p2)), .val (.long (own_f10 p1 p2)), .second, .val (.long (own_f10 p3 p4)), .second] [(.int (0 : Int32)), (.int (own_f9 p3 p1 p4 p2))])) _
                refine XS.icmpNo X71.here hx rfl (hb hby at_150) rfl (teq hc11).2 ?_
                show Steps p.tables e below (T71.setTop (mkF m 153 #[.val (.int p1), .val (.int p2), .val (.int p3), .val (.int p4), .val (.int p5), .val (.int p6), .val (.int p3), .val (.int p4), .val (.ref r3), .val (.ref r8), .val (.ref b15), .val (.ref b36), .val (.int (own_f9 p1 p3 p2 p4)), .val (.int (own_f9 p3 p1 p4 p2)), .val (.long (own_f10 p1 p2)), .second, .val (.long (own_f10 p3 p4)), .second] [])) _
                refine XS.iconst X71.here hx rfl (hb hby at_153) ?_
                show Steps p.tables e below (T71.setTop (mkF m 154 #[.val (.int p1), .val (.int p2), .val (.int p3), .val (.int p4), .val (.int p5), .val (.int p6), .val (.int p3), .val (.int p4), .val (.ref r3), .val (.ref r8), .val (.ref b15), .val (.ref b36), .val (.int (own_f9 p1 p3 p2 p4)), .val (.int (own_f9 p3 p1 p4 p2)), .val (.long (own_f10 p1 p2)), .second, .val (.long (own_f10 p3 p4)), .second] [(.int (1 : Int32))])) _
                refine XS.goto X71.here hx rfl (pc0 := 154) (pc' := 158) rfl (hb hby at_154) (by decide) (by decide) ?_
                show Steps p.tables e below (T71.setTop (mkF m 158 #[.val (.int p1), .val (.int p2), .val (.int p3), .val (.int p4), .val (.int p5), .val (.int p6), .val (.int p3), .val (.int p4), .val (.ref r3), .val (.ref r8), .val (.ref b15), .val (.ref b36), .val (.int (own_f9 p1 p3 p2 p4)), .val (.int (own_f9 p3 p1 p4 p2)), .val (.long (own_f10 p1 p2)), .second, .val (.long (own_f10 p3 p4)), .second] [(.int (1 : Int32))])) _
                exact retN X71 hx (t := .boolean) Bd.returns (by simp) (hb hby at_158) hr
              · show own_Q0 Z p1 p2 p3 p4 p5 p6 w_COMPACT_STRINGS h0 n0 _ T71.heap _
                rw [e71]
                exact ⟨(by rw [own_f0, if_pos hc1, if_pos hc2, if_neg hc3, if_pos hc8, if_neg hc9, if_pos hc11]), N72⟩
            ·
              obtain ⟨fs, hr, hrun, hended, hE⟩ := Stand.leaveW (s := s) (vm₁ := T48.vm) X71 hS48 (by rw [e71]; exact (Nat.le_refl _)) (hlocks := hlk) (v := some (.int (0 : Int32))) (fun h => by rw [Bd.returns] at h; cases h)
              refine ⟨_, _, k81 _ ?_, hrun, hended, _, _, rfl, ?_, hE.1, hE.2.1, hE.2.2.1, hE.2.2.2.mono (by decide) (by decide)⟩
              · show Steps p.tables e below (T71.setTop (mkF m 150 #[.val (.int p1), .val (.int p2), .val (.int p3), .val (.int p4), .val (.int p5), .val (.int p6), .val (.int p3), .val (.int p4), .val (.ref r3), .val (.ref r8), .val (.ref b15), .val (.ref b36), .val (.int (own_f9 p1 p3 p2 p4)), .val (.int (own_f9 p3 p1 p4 p2)), .val (.long (own_f10 p1 p2)), .second, .val (.long (own_f10 p3 p4)), .second] [(.int (0 : Int32)), (.int (own_f9 p3 p1 p4 p2))])) _
                refine XS.icmpYes X71.here hx rfl (pc0 := 150) (pc' := 157) rfl (hb hby at_150) rfl (feq hc11).2 (by decide) (by decide) ?_
                show Steps p.tables e below (T71.setTop (mkF m 157 #[.val (.int p1), .val (.int p2), .val (.int p3), .val (.int p4), .val (.int p5), .val (.int p6), .val (.int p3), .val (.int p4), .val (.ref r3), .val (.ref r8), .val (.ref b15), .val (.ref b36), .val (.int (own_f9 p1 p3 p2 p4)), .val (.int (own_f9 p3 p1 p4 p2)), .val (.long (own_f10 p1 p2)), .second, .val (.long (own_f10 p3 p4)), .second] [])) _
                refine XS.iconst X71.here hx rfl (hb hby at_157) ?_
                show Steps p.tables e below (T71.setTop (mkF m 158 #[.val (.int p1), .val (.int p2), .val (.int p3), .val (.int p4), .val (.int p5), .val (.int p6), .val (.int p3), .val (.int p4), .val (.ref r3), .val (.ref r8), .val (.ref b15), .val (.ref b36), .val (.int (own_f9 p1 p3 p2 p4)), .val (.int (own_f9 p3 p1 p4 p2)), .val (.long (own_f10 p1 p2)), .second, .val (.long (own_f10 p3 p4)), .second] [(.int (0 : Int32))])) _
                exact retN X71 hx (t := .boolean) Bd.returns (by simp) (hb hby at_158) hr
              · show own_Q0 Z p1 p2 p3 p4 p5 p6 w_COMPACT_STRINGS h0 n0 _ T71.heap _
                rw [e71]
                exact ⟨(by rw [own_f0, if_pos hc1, if_pos hc2, if_neg hc3, if_pos hc8, if_neg hc9, if_neg hc11]), N72⟩
        ·
          obtain ⟨fs, hr, hrun, hended, hE⟩ := Stand.leaveW (s := s) (vm₁ := T48.vm) X71 hS48 (by rw [e71]; exact (Nat.le_refl _)) (hlocks := hlk) (v := some (.int (0 : Int32))) (fun h => by rw [Bd.returns] at h; cases h)
          refine ⟨_, _, k78 _ ?_, hrun, hended, _, _, rfl, ?_, hE.1, hE.2.1, hE.2.2.1, hE.2.2.2.mono (by decide) (by decide)⟩
          · show Steps p.tables e below (T71.setTop (mkF m 132 #[.val (.int p1), .val (.int p2), .val (.int p3), .val (.int p4), .val (.int p5), .val (.int p6), .val (.int p3), .val (.int p4), .val (.ref r3), .val (.ref r8), .val (.ref b15), .val (.ref b36), .val (.int (own_f9 p1 p3 p2 p4)), .val (.int (own_f9 p3 p1 p4 p2)), .val (.long (own_f10 p1 p2)), .second, .val (.long (own_f10 p3 p4)), .second] [(.int (0 : Int32)), (.int (own_f9 p1 p3 p2 p4))])) _
            refine XS.icmpYes X71.here hx rfl (pc0 := 132) (pc' := 157) rfl (hb hby at_132) rfl (feq hc8).2 (by decide) (by decide) ?_
            show Steps p.tables e below (T71.setTop (mkF m 157 #[.val (.int p1), .val (.int p2), .val (.int p3), .val (.int p4), .val (.int p5), .val (.int p6), .val (.int p3), .val (.int p4), .val (.ref r3), .val (.ref r8), .val (.ref b15), .val (.ref b36), .val (.int (own_f9 p1 p3 p2 p4)), .val (.int (own_f9 p3 p1 p4 p2)), .val (.long (own_f10 p1 p2)), .second, .val (.long (own_f10 p3 p4)), .second] [])) _
            refine XS.iconst X71.here hx rfl (hb hby at_157) ?_
            show Steps p.tables e below (T71.setTop (mkF m 158 #[.val (.int p1), .val (.int p2), .val (.int p3), .val (.int p4), .val (.int p5), .val (.int p6), .val (.int p3), .val (.int p4), .val (.ref r3), .val (.ref r8), .val (.ref b15), .val (.ref b36), .val (.int (own_f9 p1 p3 p2 p4)), .val (.int (own_f9 p3 p1 p4 p2)), .val (.long (own_f10 p1 p2)), .second, .val (.long (own_f10 p3 p4)), .second] [(.int (0 : Int32))])) _
            exact retN X71 hx (t := .boolean) Bd.returns (by simp) (hb hby at_158) hr
          · show own_Q0 Z p1 p2 p3 p4 p5 p6 w_COMPACT_STRINGS h0 n0 _ T71.heap _
            rw [e71]
            exact ⟨(by rw [own_f0, if_pos hc1, if_pos hc2, if_neg hc3, if_neg hc8]), N72⟩
    ·
      obtain ⟨v82, _, ⟨T82, L82, k82, n82⟩, -, X82, ⟨Lc82, hQ82, l82, y82, z82⟩, st82⟩ := Jvm.LawKit.callS X0 hx (y := (⟨"java/lang/String", "valueOf", "(C)Ljava/lang/String;"⟩ : MethodName)) hown (mvT hZ (hw _ (List.mem_of_getElem? (i := 0) rfl))) (mvT hZ (hw _ (List.mem_of_getElem? (i := 1) rfl))) (mvT hZ (hw _ (List.mem_of_getElem? (i := 2) rfl))) (mvT hZ (hw _ (List.mem_of_getElem? (i := 3) rfl))) (by decide) (backOf (W := 0) (own_rm1 l Z a0 hw [] ((p6 &&& (255 : Int32)).toUInt32.toUInt16.toUInt32.toInt32) w_COMPACT_STRINGS h0 n0 Z0 hcs (own_lt255 _) S_COMPACT_STRINGS) hZ (hw _ (List.mem_of_getElem? (i := 3) rfl)) (hw _ (List.mem_of_getElem? (i := 2) rfl)) (by decide) (by decide)) (g := (mkF m 35 #[.val (.int p1), .val (.int p2), .val (.int p3), .val (.int p4), .val (.int p5), .val (.int p6), .val (.int p3), .val (.int p2), .unset, .unset, .unset, .unset, .unset, .unset, .unset, .unset, .unset, .unset] [(.int ((p6 &&& (255 : Int32)).toUInt32.toUInt16.toUInt32.toInt32))])) rfl (by rw [hml]; rfl) (argsL := [(.int ((p6 &&& (255 : Int32)).toUInt32.toUInt16.toUInt32.toInt32))]) (rest := []) (lenOf own_pd102 rfl) rfl (by show 2 * 0 + _ ≤ _; exact Nat.le_of_eq rfl) (hb hby at_35) (fun _ _ => ⟨rfl, e0, (by decide : 0 + 2 ≤ _), (by decide : 0 + 5 ≤ _)⟩)
      dsimp only [Pt.U, Pt.locs, Pt.cells, Pt.slots] at X82 l82 y82 z82 st82 hQ82
      subst l82 y82 z82
      obtain ⟨r82, rfl, N82q, K82, hr82, Q82_0, Q82_1⟩ := hQ82
      have g_r82 : n0 ≤ r82 := Nat.le_trans Z0 hr82
      have f83 := own_staKeep S_COMPACT_STRINGS K82
      have Z84 := Nat.le_trans Z0 K82.1
      have hk85 := Nat.le_trans hk0 K82.1
      have N86 := Fr.app N0 N82q
      obtain ⟨v87, _, ⟨T87, L87, k87, n87⟩, -, X87, ⟨Lc87, hQ87, l87, y87, z87⟩, st87⟩ := Jvm.LawKit.callS X82 hx (y := (⟨"java/lang/String", "valueOf", "(C)Ljava/lang/String;"⟩ : MethodName)) hown (mvT hZ (hw _ (List.mem_of_getElem? (i := 0) rfl))) (mvT hZ (hw _ (List.mem_of_getElem? (i := 1) rfl))) (mvT hZ (hw _ (List.mem_of_getElem? (i := 2) rfl))) (mvT hZ (hw _ (List.mem_of_getElem? (i := 3) rfl))) (by decide) (backOf (W := 0) (own_rm1 l Z a0 hw [] ((((p6.toUInt32 >>> ((8 : Int32) &&& 31).toUInt32).toInt32) &&& (255 : Int32)).toUInt32.toUInt16.toUInt32.toInt32) w_COMPACT_STRINGS T82.heap n0 Z84 hcs (own_lt255 _) f83) hZ (hw _ (List.mem_of_getElem? (i := 3) rfl)) (hw _ (List.mem_of_getElem? (i := 2) rfl)) (by decide) (by decide)) (g := (mkF m 50 #[.val (.int p1), .val (.int p2), .val (.int p3), .val (.int p4), .val (.int p5), .val (.int p6), .val (.int p3), .val (.int p2), .val (.ref r82), .unset, .unset, .unset, .unset, .unset, .unset, .unset, .unset, .unset] [(.int ((((p6.toUInt32 >>> ((8 : Int32) &&& 31).toUInt32).toInt32) &&& (255 : Int32)).toUInt32.toUInt16.toUInt32.toInt32))])) rfl (by rw [hml]; rfl) (argsL := [(.int ((((p6.toUInt32 >>> ((8 : Int32) &&& 31).toUInt32).toInt32) &&& (255 : Int32)).toUInt32.toUInt16.toUInt32.toInt32))]) (rest := []) (lenOf own_pd102 rfl) rfl (by show 2 * 0 + _ ≤ _; exact Nat.le_of_eq rfl) (hb hby at_50) (fun _ _ => ⟨rfl, rfl, (by decide : 2 + 2 ≤ _), (by decide : 5 + 5 ≤ _)⟩)
      dsimp only [Pt.U, Pt.locs, Pt.cells, Pt.slots] at X87 l87 y87 z87 st87 hQ87
      subst l87 y87 z87
      obtain ⟨r87, rfl, N87q, K87, hr87, Q87_0, Q87_1⟩ := hQ87
      have ne_r82_r87 : r82 ≠ r87 := Nat.ne_of_lt (Nat.lt_of_lt_of_le Q82_0.lt hr87)
      have g_r87 : n0 ≤ r87 := Nat.le_trans Z84 hr87
      have f88 := own_staKeep f83 K87
      have f89 := Q82_0.keep K87
      have f90 := Q82_1.keep K87 nin0
      have Z91 := Nat.le_trans Z84 K87.1
      have hk92 := Nat.le_trans hk85 K87.1
      have N93 := Fr.app N86 N87q
      obtain ⟨T94, h94, X94, e94, E94, A94, D94, -, st94⟩ := newO X87 hx hZ hown (hw _ (List.mem_of_getElem? (i := 26) rfl)) (hw _ (List.mem_of_getElem? (i := 27) rfl)) (hw _ (List.mem_of_getElem? (i := 28) rfl)) rfl (g := (mkF m 55 #[.val (.int p1), .val (.int p2), .val (.int p3), .val (.int p4), .val (.int p5), .val (.int p6), .val (.int p3), .val (.int p2), .val (.ref r82), .val (.ref r87), .unset, .unset, .unset, .unset, .unset, .unset, .unset, .unset] [])) rfl (hb hby at_55) (by decide) (by decide)
      obtain ⟨b94, g94⟩ : ∃ z, z = T87.heap.size := ⟨_, rfl⟩
      rw [← g94] at A94 D94 st94
      have ne_r82_b94 : r82 ≠ b94 := Nat.ne_of_lt (Nat.lt_of_lt_of_le f89.lt (Nat.le_of_eq g94.symm))
      have ne_r87_b94 : r87 ≠ b94 := Nat.ne_of_lt (Nat.lt_of_lt_of_le Q87_0.lt (Nat.le_of_eq g94.symm))
      have g_b94 : n0 ≤ b94 := Nat.le_trans Z91 (Nat.le_of_eq g94.symm)
      have f95 := f88.ext E94
      have f96 := f89.ext E94
      have f97 := f90.ext E94
      have f98 := Q87_0.ext E94
      have f99 := Q87_1.ext E94
      have Z100 := Nat.le_trans Z91 E94.1
      have hk101 := Nat.le_trans hk92 E94.1
      have F_file_b94 : Fld Z h94 b94 "com/example/edgbaston/edgbaston/source/Location" "file" "Ljava/lang/String;" .null := D94 (Or.inr (hw _ (List.mem_of_getElem? (i := 46) rfl))) (ty := (.object "java/lang/String")) (by decide)
      have F_line_b94 : Fld Z h94 b94 "com/example/edgbaston/edgbaston/source/Location" "line" "I" (.int (0 : Int32)) := D94 (Or.inr (hw _ (List.mem_of_getElem? (i := 48) rfl))) (ty := .int) (by decide)
      have F_column_b94 : Fld Z h94 b94 "com/example/edgbaston/edgbaston/source/Location" "column" "I" (.int (0 : Int32)) := D94 (Or.inr (hw _ (List.mem_of_getElem? (i := 50) rfl))) (ty := .int) (by decide)
      obtain ⟨v102, _, ⟨T102, L102, k102, n102⟩, -, Y102, Si102, gr102, ⟨Lc102, hQ102, l102, y102, z102⟩, st102⟩ := X94.specialBackS hx (y := (⟨"com/example/edgbaston/edgbaston/source/Location", "<init>", "(Ljava/lang/String;II)V"⟩ : MethodName)) rfl hown (mvT hZ (hw _ (List.mem_of_getElem? (i := 29) rfl))) (mvT hZ (hw _ (List.mem_of_getElem? (i := 30) rfl))) (mvT hZ (hw _ (List.mem_of_getElem? (i := 31) rfl))) (by decide) (backOfS (W := 1) (own_rm6 l Z a0 hw [] b94 r82 p1 p2 .null (0 : Int32) (0 : Int32) h94 n0 Z100 A94 F_file_b94 g_b94 F_line_b94 F_column_b94) hZ (hw _ (List.mem_of_getElem? (i := 31) rfl)) (hw _ (List.mem_of_getElem? (i := 28) rfl)) (by decide) (by decide)) (g := (mkF m 63 #[.val (.int p1), .val (.int p2), .val (.int p3), .val (.int p4), .val (.int p5), .val (.int p6), .val (.int p3), .val (.int p2), .val (.ref r82), .val (.ref r87), .unset, .unset, .unset, .unset, .unset, .unset, .unset, .unset] [(.int p2), (.int p1), (.ref r82), (.ref b94), (.ref b94)])) rfl (by rw [hml]; rfl) (Steps.refl _) (a := b94) (argsL := [(.ref r82), (.int p1), (.int p2)]) (rest := [(.ref b94)]) (lenOf own_pd103 rfl) rfl (by show 2 * 0 + _ ≤ _; exact Nat.le_of_eq rfl) (hb hby at_63) (fun _ _ => ⟨rfl, e94, (by decide : 5 + 2 ≤ _), (by decide : 13 + 20 ≤ _)⟩)
      dsimp only [Pt.U, Pt.locs, Pt.cells, Pt.slots] at Y102 Si102 gr102 l102 y102 z102 st102 hQ102
      subst l102 y102 z102
      obtain ⟨X102, hS102, hZ102, hown102⟩ := rebS hS0 (by rw [e94]; exact hk101) Y102 Si102 gr102 hZ hown
      obtain ⟨rfl, N102q, K102, Q102_0, Q102_1, Q102_2, Q102_3⟩ := hQ102
      have f103 := own_staKeepE f95 K102 (allS ⟨_, A94⟩ all0)
      have f104 := f96.keep K102
      have f105 := f97.keep K102 (ninS ne_r82_b94 nin0)
      have f106 := f98.keep K102
      have f107 := f99.keep K102 (ninS ne_r87_b94 nin0)
      have f108 := A94.keep K102
      have Z112 := Nat.le_trans Z100 K102.1
      have hk113 := Nat.le_trans hk101 K102.1
      have N114 := Fr.app N93 N102q
      obtain ⟨T115, h115, X115, e115, E115, A115, D115, -, st115⟩ := newO X102 hx hZ102 hown102 (hw _ (List.mem_of_getElem? (i := 26) rfl)) (hw _ (List.mem_of_getElem? (i := 27) rfl)) (hw _ (List.mem_of_getElem? (i := 28) rfl)) rfl (g := (mkF m 68 #[.val (.int p1), .val (.int p2), .val (.int p3), .val (.int p4), .val (.int p5), .val (.int p6), .val (.int p3), .val (.int p2), .val (.ref r82), .val (.ref r87), .val (.ref b94), .unset, .unset, .unset, .unset, .unset, .unset, .unset] [])) rfl (hb hby at_68) (by decide) (by decide)
      obtain ⟨b115, g115⟩ : ∃ z, z = T102.heap.size := ⟨_, rfl⟩
      rw [← g115] at A115 D115 st115
      have ne_r82_b115 : r82 ≠ b115 := Nat.ne_of_lt (Nat.lt_of_lt_of_le f104.lt (Nat.le_of_eq g115.symm))
      have ne_r87_b115 : r87 ≠ b115 := Nat.ne_of_lt (Nat.lt_of_lt_of_le f106.lt (Nat.le_of_eq g115.symm))
      have ne_b94_b115 : b94 ≠ b115 := Nat.ne_of_lt (Nat.lt_of_lt_of_le Q102_0.lt (Nat.le_of_eq g115.symm))
      have g_b115 : n0 ≤ b115 := Nat.le_trans Z112 (Nat.le_of_eq g115.symm)
      have f116 := f103.ext E115
      have f117 := f104.ext E115
      have f118 := f105.ext E115
      have f119 := f106.ext E115
      have f120 := f107.ext E115
      have f121 := Q102_0.ext E115
      have f122 := Q102_1.ext E115
      have f123 := Q102_2.ext E115
      have f124 := Q102_3.ext E115
      have Z125 := Nat.le_trans Z112 E115.1
      have hk126 := Nat.le_trans (Nat.le_refl _) E115.1
      have F_file_b115 : Fld Z h115 b115 "com/example/edgbaston/edgbaston/source/Location" "file" "Ljava/lang/String;" .null := D115 (Or.inr (hw _ (List.mem_of_getElem? (i := 46) rfl))) (ty := (.object "java/lang/String")) (by decide)
      have F_line_b115 : Fld Z h115 b115 "com/example/edgbaston/edgbaston/source/Location" "line" "I" (.int (0 : Int32)) := D115 (Or.inr (hw _ (List.mem_of_getElem? (i := 48) rfl))) (ty := .int) (by decide)
      have F_column_b115 : Fld Z h115 b115 "com/example/edgbaston/edgbaston/source/Location" "column" "I" (.int (0 : Int32)) := D115 (Or.inr (hw _ (List.mem_of_getElem? (i := 50) rfl))) (ty := .int) (by decide)
      obtain ⟨v127, _, ⟨T127, L127, k127, n127⟩, -, Y127, Si127, gr127, ⟨Lc127, hQ127, l127, y127, z127⟩, st127⟩ := X115.specialBackS hx (y := (⟨"com/example/edgbaston/edgbaston/source/Location", "<init>", "(Ljava/lang/String;II)V"⟩ : MethodName)) rfl hown102 (mvT hZ102 (hw _ (List.mem_of_getElem? (i := 29) rfl))) (mvT hZ102 (hw _ (List.mem_of_getElem? (i := 30) rfl))) (mvT hZ102 (hw _ (List.mem_of_getElem? (i := 31) rfl))) (by decide) (backOfS (W := 1) (own_rm6 l Z a0 hw [] b115 r87 p3 p2 .null (0 : Int32) (0 : Int32) h115 n0 Z125 A115 F_file_b115 g_b115 F_line_b115 F_column_b115) hZ102 (hw _ (List.mem_of_getElem? (i := 31) rfl)) (hw _ (List.mem_of_getElem? (i := 28) rfl)) (by decide) (by decide)) (g := (mkF m 78 #[.val (.int p1), .val (.int p2), .val (.int p3), .val (.int p4), .val (.int p5), .val (.int p6), .val (.int p3), .val (.int p2), .val (.ref r82), .val (.ref r87), .val (.ref b94), .unset, .unset, .unset, .unset, .unset, .unset, .unset] [(.int p2), (.int p3), (.ref r87), (.ref b115), (.ref b115)])) rfl (by rw [hml]; rfl) (Steps.refl _) (a := b115) (argsL := [(.ref r87), (.int p3), (.int p2)]) (rest := [(.ref b115)]) (lenOf own_pd103 rfl) rfl (by show 2 * 0 + _ ≤ _; exact Nat.le_of_eq rfl) (hb hby at_78) (fun _ _ => ⟨rfl, e115, (by decide : 8 + 2 ≤ _), (by decide : 36 + 20 ≤ _)⟩)
      dsimp only [Pt.U, Pt.locs, Pt.cells, Pt.slots] at Y127 Si127 gr127 l127 y127 z127 st127 hQ127
      subst l127 y127 z127
      obtain ⟨X127, hS127, hZ127, hown127⟩ := rebS hS102 (by rw [e115]; exact hk126) Y127 Si127 gr127 hZ102 hown102
      obtain ⟨rfl, N127q, K127, Q127_0, Q127_1, Q127_2, Q127_3⟩ := hQ127
      have f128 := own_staKeepE f116 K127 (allS ⟨_, A115⟩ all0)
      have f129 := f117.keep K127
      have f130 := f118.keep K127 (ninS ne_r82_b115 nin0)
      have f131 := f119.keep K127
      have f132 := f120.keep K127 (ninS ne_r87_b115 nin0)
      have f133 := f121.keep K127
      have f134 := f122.keep K127 (ninS ne_b94_b115 nin0)
      have f135 := f123.keep K127 (ninS ne_b94_b115 nin0)
      have f136 := f124.keep K127 (ninS ne_b94_b115 nin0)
      have f137 := A115.keep K127
      have Z141 := Nat.le_trans Z125 K127.1
      have hk142 := Nat.le_trans hk126 K127.1
      have N143 := Fr.app N114 N127q
      obtain ⟨cq144, kq144, q144a, q144b, q144c⟩ := isOf hZ127 rfl f133
      obtain ⟨v144, _, ⟨T144, L144, k144, n144⟩, -, X144, ⟨Lc144, hQ144, l144, y144, z144⟩, st144⟩ := X127.virtualBack hx (y := (⟨"com/example/edgbaston/edgbaston/source/Location", "isBefore", "(Lcom/example/edgbaston/edgbaston/source/Location;)Z"⟩ : MethodName)) (z := (⟨"com/example/edgbaston/edgbaston/source/Location", "isBefore", "(Lcom/example/edgbaston/edgbaston/source/Location;)Z"⟩ : MethodName)) hown127 (mvT hZ127 (hw _ (List.mem_of_getElem? (i := 51) rfl))) (mvT hZ127 (hw _ (List.mem_of_getElem? (i := 52) rfl))) (notFace_of_selects (args := #[]) (mvT hZ127 (hw _ (List.mem_of_getElem? (i := 54) rfl)))) (mvT hZ127 (hw _ (List.mem_of_getElem? (i := 54) rfl))) (mvT hZ127 (hw _ (List.mem_of_getElem? (i := 53) rfl))) (by decide) (backOf (W := 0) (own_rm9 l Z a0 hw [] b94 b115 p1 p3 p2 p2 T127.heap n0 Z141 f135 Q127_2 f136 Q127_3) hZ127 (hw _ (List.mem_of_getElem? (i := 55) rfl)) (hw _ (List.mem_of_getElem? (i := 28) rfl)) (by decide) (by decide)) q144a q144c (g := (mkF m 87 #[.val (.int p1), .val (.int p2), .val (.int p3), .val (.int p4), .val (.int p5), .val (.int p6), .val (.int p3), .val (.int p2), .val (.ref r82), .val (.ref r87), .val (.ref b94), .val (.ref b115), .unset, .unset, .unset, .unset, .unset, .unset] [(.ref b115), (.ref b94)])) rfl (by rw [hml]; rfl) (Steps.refl _) (argsL := [(.ref b115)]) (rest := []) (lenOf own_pd104 rfl) rfl (by show 2 * 0 + _ ≤ _; exact Nat.le_of_eq rfl) (hb hby at_87) (fun _ _ => ⟨rfl, rfl, (by decide : 10 + 0 ≤ _), (by decide : 56 + 0 ≤ _)⟩)
      dsimp only [Pt.U, Pt.locs, Pt.cells, Pt.slots] at X144 l144 y144 z144 st144 hQ144
      subst l144 y144 z144
      obtain ⟨rfl, N144q, e144⟩ := hQ144
      have N145 := Fr.app N143 N144q
      obtain ⟨cq146, kq146, q146a, q146b, q146c⟩ := isOf hZ127 e144 Q127_0
      obtain ⟨v146, _, ⟨T146, L146, k146, n146⟩, -, X146, ⟨Lc146, hQ146, l146, y146, z146⟩, st146⟩ := X144.virtualBack hx (y := (⟨"com/example/edgbaston/edgbaston/source/Location", "isBefore", "(Lcom/example/edgbaston/edgbaston/source/Location;)Z"⟩ : MethodName)) (z := (⟨"com/example/edgbaston/edgbaston/source/Location", "isBefore", "(Lcom/example/edgbaston/edgbaston/source/Location;)Z"⟩ : MethodName)) hown127 (mvT hZ127 (hw _ (List.mem_of_getElem? (i := 51) rfl))) (mvT hZ127 (hw _ (List.mem_of_getElem? (i := 52) rfl))) (notFace_of_selects (args := #[]) (mvT hZ127 (hw _ (List.mem_of_getElem? (i := 54) rfl)))) (mvT hZ127 (hw _ (List.mem_of_getElem? (i := 54) rfl))) (mvT hZ127 (hw _ (List.mem_of_getElem? (i := 53) rfl))) (by decide) (backOf (W := 0) (own_rm9 l Z a0 hw [] b115 b94 p3 p1 p2 p2 T127.heap n0 Z141 Q127_2 f135 Q127_3 f136) hZ127 (hw _ (List.mem_of_getElem? (i := 55) rfl)) (hw _ (List.mem_of_getElem? (i := 28) rfl)) (by decide) (by decide)) q146a q146c (g := (mkF m 96 #[.val (.int p1), .val (.int p2), .val (.int p3), .val (.int p4), .val (.int p5), .val (.int p6), .val (.int p3), .val (.int p2), .val (.ref r82), .val (.ref r87), .val (.ref b94), .val (.ref b115), .val (.int (own_f9 p1 p3 p2 p2)), .unset, .unset, .unset, .unset, .unset] [(.ref b94), (.ref b115)])) rfl (by rw [hml]; rfl) (Steps.refl _) (argsL := [(.ref b94)]) (rest := []) (lenOf own_pd104 rfl) rfl (by show 2 * 0 + _ ≤ _; exact Nat.le_of_eq rfl) (hb hby at_96) (fun _ _ => ⟨rfl, e144, (by decide : 10 + 0 ≤ _), (by decide : 56 + 0 ≤ _)⟩)
      dsimp only [Pt.U, Pt.locs, Pt.cells, Pt.slots] at X146 l146 y146 z146 st146 hQ146
      subst l146 y146 z146
      obtain ⟨rfl, N146q, e146⟩ := hQ146
      have N147 := Fr.app N145 N146q
      obtain ⟨v148, _, ⟨T148, L148, k148, n148⟩, -, X148, ⟨Lc148, hQ148, l148, y148, z148⟩, st148⟩ := Jvm.LawKit.callS X146 hx (y := (⟨"com/example/edgbaston/edgbaston/source/LocationIsBeforePinLaw", "key", "(II)J"⟩ : MethodName)) hown127 (mvT hZ127 (hw _ (List.mem_of_getElem? (i := 56) rfl))) (mvT hZ127 (hw _ (List.mem_of_getElem? (i := 57) rfl))) (mvT hZ127 (hw _ (List.mem_of_getElem? (i := 58) rfl))) (mvT hZ127 (hw _ (List.mem_of_getElem? (i := 59) rfl))) (by decide) (backOf (W := 0) (own_rm10 l Z a0 hw [] p1 p2 T127.heap n0 Z141) hZ127 (hw _ (List.mem_of_getElem? (i := 59) rfl)) (hw _ (List.mem_of_getElem? (i := 58) rfl)) (by decide) (by decide)) (g := (mkF m 103 #[.val (.int p1), .val (.int p2), .val (.int p3), .val (.int p4), .val (.int p5), .val (.int p6), .val (.int p3), .val (.int p2), .val (.ref r82), .val (.ref r87), .val (.ref b94), .val (.ref b115), .val (.int (own_f9 p1 p3 p2 p2)), .val (.int (own_f9 p3 p1 p2 p2)), .unset, .unset, .unset, .unset] [(.int p2), (.int p1)])) rfl (by rw [hml]; rfl) (argsL := [(.int p1), (.int p2)]) (rest := []) (lenOf own_pd105 rfl) rfl (by show 2 * 0 + _ ≤ _; exact Nat.le_of_eq rfl) (hb hby at_103) (fun _ _ => ⟨rfl, e146, (by decide : 10 + 0 ≤ _), (by decide : 56 + 0 ≤ _)⟩)
      dsimp only [Pt.U, Pt.locs, Pt.cells, Pt.slots] at X148 l148 y148 z148 st148 hQ148
      subst l148 y148 z148
      obtain ⟨rfl, N148q, e148⟩ := hQ148
      have N149 := Fr.app N147 N148q
      obtain ⟨v150, _, ⟨T150, L150, k150, n150⟩, -, X150, ⟨Lc150, hQ150, l150, y150, z150⟩, st150⟩ := Jvm.LawKit.callS X148 hx (y := (⟨"com/example/edgbaston/edgbaston/source/LocationIsBeforePinLaw", "key", "(II)J"⟩ : MethodName)) hown127 (mvT hZ127 (hw _ (List.mem_of_getElem? (i := 56) rfl))) (mvT hZ127 (hw _ (List.mem_of_getElem? (i := 57) rfl))) (mvT hZ127 (hw _ (List.mem_of_getElem? (i := 58) rfl))) (mvT hZ127 (hw _ (List.mem_of_getElem? (i := 59) rfl))) (by decide) (backOf (W := 0) (own_rm10 l Z a0 hw [] p3 p2 T127.heap n0 Z141) hZ127 (hw _ (List.mem_of_getElem? (i := 59) rfl)) (hw _ (List.mem_of_getElem? (i := 58) rfl)) (by decide) (by decide)) (g := (mkF m 112 #[.val (.int p1), .val (.int p2), .val (.int p3), .val (.int p4), .val (.int p5), .val (.int p6), .val (.int p3), .val (.int p2), .val (.ref r82), .val (.ref r87), .val (.ref b94), .val (.ref b115), .val (.int (own_f9 p1 p3 p2 p2)), .val (.int (own_f9 p3 p1 p2 p2)), .val (.long (own_f10 p1 p2)), .second, .unset, .unset] [(.int p2), (.int p3)])) rfl (by rw [hml]; rfl) (argsL := [(.int p3), (.int p2)]) (rest := []) (lenOf own_pd105 rfl) rfl (by show 2 * 0 + _ ≤ _; exact Nat.le_of_eq rfl) (hb hby at_112) (fun _ _ => ⟨rfl, e148, (by decide : 10 + 0 ≤ _), (by decide : 56 + 0 ≤ _)⟩)
      dsimp only [Pt.U, Pt.locs, Pt.cells, Pt.slots] at X150 l150 y150 z150 st150 hQ150
      subst l150 y150 z150
      obtain ⟨rfl, N150q, e150⟩ := hQ150
      have N151 := Fr.app N149 N150q
      have k152 : ∀ t, Steps p.tables e below (T150.setTop (mkF m 124 #[.val (.int p1), .val (.int p2), .val (.int p3), .val (.int p4), .val (.int p5), .val (.int p6), .val (.int p3), .val (.int p2), .val (.ref r82), .val (.ref r87), .val (.ref b94), .val (.ref b115), .val (.int (own_f9 p1 p3 p2 p2)), .val (.int (own_f9 p3 p1 p2 p2)), .val (.long (own_f10 p1 p2)), .second, .val (.long (own_f10 p3 p2)), .second] [(.int (lcmpW (own_f10 p1 p2) (own_f10 p3 p2))), (.int (own_f9 p1 p3 p2 p2))])) t → Steps p.tables e below (s₁.setTop (entryFrame m #[(.int p1), (.int p2), (.int p3), (.int p4), (.int p5), (.int p6)] maxLocals)) t := by
        intro t kt
        refine k2 t ?_
        show Steps p.tables e below (s₁.setTop (mkF m 18 #[.val (.int p1), .val (.int p2), .val (.int p3), .val (.int p4), .val (.int p5), .val (.int p6), .val (.int p3), .unset, .unset, .unset, .unset, .unset, .unset, .unset, .unset, .unset, .unset, .unset] [(.int (p5 &&& (2 : Int32)))])) _
        refine XS.ifNo X0.here hx rfl (hb hby at_18) rfl ((if0 _ _).trans (feq hc2).1) ?_
        show Steps p.tables e below (s₁.setTop (mkF m 21 #[.val (.int p1), .val (.int p2), .val (.int p3), .val (.int p4), .val (.int p5), .val (.int p6), .val (.int p3), .unset, .unset, .unset, .unset, .unset, .unset, .unset, .unset, .unset, .unset, .unset] [])) _
        refine XS.iloadN X0.here hx rfl (hb hby at_21) rfl ?_
        show Steps p.tables e below (s₁.setTop (mkF m 22 #[.val (.int p1), .val (.int p2), .val (.int p3), .val (.int p4), .val (.int p5), .val (.int p6), .val (.int p3), .unset, .unset, .unset, .unset, .unset, .unset, .unset, .unset, .unset, .unset, .unset] [(.int p2)])) _
        refine XS.goto X0.here hx rfl (pc0 := 22) (pc' := 26) rfl (hb hby at_22) (by decide) (by decide) ?_
        show Steps p.tables e below (s₁.setTop (mkF m 26 #[.val (.int p1), .val (.int p2), .val (.int p3), .val (.int p4), .val (.int p5), .val (.int p6), .val (.int p3), .unset, .unset, .unset, .unset, .unset, .unset, .unset, .unset, .unset, .unset, .unset] [(.int p2)])) _
        refine XS.istore X0.here hx rfl (hb hby at_26) rfl (l' := #[.val (.int p1), .val (.int p2), .val (.int p3), .val (.int p4), .val (.int p5), .val (.int p6), .val (.int p3), .val (.int p2), .unset, .unset, .unset, .unset, .unset, .unset, .unset, .unset, .unset, .unset]) rfl ?_
        show Steps p.tables e below (s₁.setTop (mkF m 28 #[.val (.int p1), .val (.int p2), .val (.int p3), .val (.int p4), .val (.int p5), .val (.int p6), .val (.int p3), .val (.int p2), .unset, .unset, .unset, .unset, .unset, .unset, .unset, .unset, .unset, .unset] [])) _
        refine XS.iload X0.here hx rfl (hb hby at_28) rfl ?_
        show Steps p.tables e below (s₁.setTop (mkF m 30 #[.val (.int p1), .val (.int p2), .val (.int p3), .val (.int p4), .val (.int p5), .val (.int p6), .val (.int p3), .val (.int p2), .unset, .unset, .unset, .unset, .unset, .unset, .unset, .unset, .unset, .unset] [(.int p6)])) _
        refine XS.sipush X0.here hx rfl (hb hby at_30) ?_
        show Steps p.tables e below (s₁.setTop (mkF m 33 #[.val (.int p1), .val (.int p2), .val (.int p3), .val (.int p4), .val (.int p5), .val (.int p6), .val (.int p3), .val (.int p2), .unset, .unset, .unset, .unset, .unset, .unset, .unset, .unset, .unset, .unset] [(.int (255 : Int32)), (.int p6)])) _
        refine XS.iand X0.here hx rfl (hb hby at_33) rfl ?_
        show Steps p.tables e below (s₁.setTop (mkF m 34 #[.val (.int p1), .val (.int p2), .val (.int p3), .val (.int p4), .val (.int p5), .val (.int p6), .val (.int p3), .val (.int p2), .unset, .unset, .unset, .unset, .unset, .unset, .unset, .unset, .unset, .unset] [(.int (p6 &&& (255 : Int32)))])) _
        refine XS.i2c X0.here hx rfl (hb hby at_34) rfl ?_
        show Steps p.tables e below (s₁.setTop (mkF m 35 #[.val (.int p1), .val (.int p2), .val (.int p3), .val (.int p4), .val (.int p5), .val (.int p6), .val (.int p3), .val (.int p2), .unset, .unset, .unset, .unset, .unset, .unset, .unset, .unset, .unset, .unset] [(.int ((p6 &&& (255 : Int32)).toUInt32.toUInt16.toUInt32.toInt32))])) _
        refine st82 _ ?_
        show Steps p.tables e below (T82.setTop (mkF m 38 #[.val (.int p1), .val (.int p2), .val (.int p3), .val (.int p4), .val (.int p5), .val (.int p6), .val (.int p3), .val (.int p2), .unset, .unset, .unset, .unset, .unset, .unset, .unset, .unset, .unset, .unset] [(.ref r82)])) _
        refine XS.astore X82.here hx rfl (hb hby at_38) rfl rfl (l' := #[.val (.int p1), .val (.int p2), .val (.int p3), .val (.int p4), .val (.int p5), .val (.int p6), .val (.int p3), .val (.int p2), .val (.ref r82), .unset, .unset, .unset, .unset, .unset, .unset, .unset, .unset, .unset]) rfl ?_
        show Steps p.tables e below (T82.setTop (mkF m 40 #[.val (.int p1), .val (.int p2), .val (.int p3), .val (.int p4), .val (.int p5), .val (.int p6), .val (.int p3), .val (.int p2), .val (.ref r82), .unset, .unset, .unset, .unset, .unset, .unset, .unset, .unset, .unset] [])) _
        refine XS.iload X82.here hx rfl (hb hby at_40) rfl ?_
        show Steps p.tables e below (T82.setTop (mkF m 42 #[.val (.int p1), .val (.int p2), .val (.int p3), .val (.int p4), .val (.int p5), .val (.int p6), .val (.int p3), .val (.int p2), .val (.ref r82), .unset, .unset, .unset, .unset, .unset, .unset, .unset, .unset, .unset] [(.int p6)])) _
        refine XS.bipush X82.here hx rfl (hb hby at_42) ?_
        show Steps p.tables e below (T82.setTop (mkF m 44 #[.val (.int p1), .val (.int p2), .val (.int p3), .val (.int p4), .val (.int p5), .val (.int p6), .val (.int p3), .val (.int p2), .val (.ref r82), .unset, .unset, .unset, .unset, .unset, .unset, .unset, .unset, .unset] [(.int (8 : Int32)), (.int p6)])) _
        refine XS.iushr X82.here hx rfl (hb hby at_44) rfl ?_
        show Steps p.tables e below (T82.setTop (mkF m 45 #[.val (.int p1), .val (.int p2), .val (.int p3), .val (.int p4), .val (.int p5), .val (.int p6), .val (.int p3), .val (.int p2), .val (.ref r82), .unset, .unset, .unset, .unset, .unset, .unset, .unset, .unset, .unset] [(.int ((p6.toUInt32 >>> ((8 : Int32) &&& 31).toUInt32).toInt32))])) _
        refine XS.sipush X82.here hx rfl (hb hby at_45) ?_
        show Steps p.tables e below (T82.setTop (mkF m 48 #[.val (.int p1), .val (.int p2), .val (.int p3), .val (.int p4), .val (.int p5), .val (.int p6), .val (.int p3), .val (.int p2), .val (.ref r82), .unset, .unset, .unset, .unset, .unset, .unset, .unset, .unset, .unset] [(.int (255 : Int32)), (.int ((p6.toUInt32 >>> ((8 : Int32) &&& 31).toUInt32).toInt32))])) _
        refine XS.iand X82.here hx rfl (hb hby at_48) rfl ?_
        show Steps p.tables e below (T82.setTop (mkF m 49 #[.val (.int p1), .val (.int p2), .val (.int p3), .val (.int p4), .val (.int p5), .val (.int p6), .val (.int p3), .val (.int p2), .val (.ref r82), .unset, .unset, .unset, .unset, .unset, .unset, .unset, .unset, .unset] [(.int (((p6.toUInt32 >>> ((8 : Int32) &&& 31).toUInt32).toInt32) &&& (255 : Int32)))])) _
        refine XS.i2c X82.here hx rfl (hb hby at_49) rfl ?_
        show Steps p.tables e below (T82.setTop (mkF m 50 #[.val (.int p1), .val (.int p2), .val (.int p3), .val (.int p4), .val (.int p5), .val (.int p6), .val (.int p3), .val (.int p2), .val (.ref r82), .unset, .unset, .unset, .unset, .unset, .unset, .unset, .unset, .unset] [(.int ((((p6.toUInt32 >>> ((8 : Int32) &&& 31).toUInt32).toInt32) &&& (255 : Int32)).toUInt32.toUInt16.toUInt32.toInt32))])) _
        refine st87 _ ?_
        show Steps p.tables e below (T87.setTop (mkF m 53 #[.val (.int p1), .val (.int p2), .val (.int p3), .val (.int p4), .val (.int p5), .val (.int p6), .val (.int p3), .val (.int p2), .val (.ref r82), .unset, .unset, .unset, .unset, .unset, .unset, .unset, .unset, .unset] [(.ref r87)])) _
        refine XS.astore X87.here hx rfl (hb hby at_53) rfl rfl (l' := #[.val (.int p1), .val (.int p2), .val (.int p3), .val (.int p4), .val (.int p5), .val (.int p6), .val (.int p3), .val (.int p2), .val (.ref r82), .val (.ref r87), .unset, .unset, .unset, .unset, .unset, .unset, .unset, .unset]) rfl ?_
        show Steps p.tables e below (T87.setTop (mkF m 55 #[.val (.int p1), .val (.int p2), .val (.int p3), .val (.int p4), .val (.int p5), .val (.int p6), .val (.int p3), .val (.int p2), .val (.ref r82), .val (.ref r87), .unset, .unset, .unset, .unset, .unset, .unset, .unset, .unset] [])) _
        refine st94 _ ?_
        show Steps p.tables e below (T94.setTop (mkF m 58 #[.val (.int p1), .val (.int p2), .val (.int p3), .val (.int p4), .val (.int p5), .val (.int p6), .val (.int p3), .val (.int p2), .val (.ref r82), .val (.ref r87), .unset, .unset, .unset, .unset, .unset, .unset, .unset, .unset] [(.ref b94)])) _
        refine XS.dup X94.here hx rfl (hb hby at_58) rfl rfl ?_
        show Steps p.tables e below (T94.setTop (mkF m 59 #[.val (.int p1), .val (.int p2), .val (.int p3), .val (.int p4), .val (.int p5), .val (.int p6), .val (.int p3), .val (.int p2), .val (.ref r82), .val (.ref r87), .unset, .unset, .unset, .unset, .unset, .unset, .unset, .unset] [(.ref b94), (.ref b94)])) _
        refine XS.aload X94.here hx rfl (hb hby at_59) rfl rfl ?_
        show Steps p.tables e below (T94.setTop (mkF m 61 #[.val (.int p1), .val (.int p2), .val (.int p3), .val (.int p4), .val (.int p5), .val (.int p6), .val (.int p3), .val (.int p2), .val (.ref r82), .val (.ref r87), .unset, .unset, .unset, .unset, .unset, .unset, .unset, .unset] [(.ref r82), (.ref b94), (.ref b94)])) _
        refine XS.iloadN X94.here hx rfl (hb hby at_61) rfl ?_
        show Steps p.tables e below (T94.setTop (mkF m 62 #[.val (.int p1), .val (.int p2), .val (.int p3), .val (.int p4), .val (.int p5), .val (.int p6), .val (.int p3), .val (.int p2), .val (.ref r82), .val (.ref r87), .unset, .unset, .unset, .unset, .unset, .unset, .unset, .unset] [(.int p1), (.ref r82), (.ref b94), (.ref b94)])) _
        refine XS.iloadN X94.here hx rfl (hb hby at_62) rfl ?_
        show Steps p.tables e below (T94.setTop (mkF m 63 #[.val (.int p1), .val (.int p2), .val (.int p3), .val (.int p4), .val (.int p5), .val (.int p6), .val (.int p3), .val (.int p2), .val (.ref r82), .val (.ref r87), .unset, .unset, .unset, .unset, .unset, .unset, .unset, .unset] [(.int p2), (.int p1), (.ref r82), (.ref b94), (.ref b94)])) _
        refine st102.trans ?_
        show Steps p.tables e below (T102.setTop (mkF m 66 #[.val (.int p1), .val (.int p2), .val (.int p3), .val (.int p4), .val (.int p5), .val (.int p6), .val (.int p3), .val (.int p2), .val (.ref r82), .val (.ref r87), .unset, .unset, .unset, .unset, .unset, .unset, .unset, .unset] [(.ref b94)])) _
        refine XS.astore X102.here hx rfl (hb hby at_66) rfl rfl (l' := #[.val (.int p1), .val (.int p2), .val (.int p3), .val (.int p4), .val (.int p5), .val (.int p6), .val (.int p3), .val (.int p2), .val (.ref r82), .val (.ref r87), .val (.ref b94), .unset, .unset, .unset, .unset, .unset, .unset, .unset]) rfl ?_
        show Steps p.tables e below (T102.setTop (mkF m 68 #[.val (.int p1), .val (.int p2), .val (.int p3), .val (.int p4), .val (.int p5), .val (.int p6), .val (.int p3), .val (.int p2), .val (.ref r82), .val (.ref r87), .val (.ref b94), .unset, .unset, .unset, .unset, .unset, .unset, .unset] [])) _
        refine st115 _ ?_
        show Steps p.tables e below (T115.setTop (mkF m 71 #[.val (.int p1), .val (.int p2), .val (.int p3), .val (.int p4), .val (.int p5), .val (.int p6), .val (.int p3), .val (.int p2), .val (.ref r82), .val (.ref r87), .val (.ref b94), .unset, .unset, .unset, .unset, .unset, .unset, .unset] [(.ref b115)])) _
        refine XS.dup X115.here hx rfl (hb hby at_71) rfl rfl ?_
        show Steps p.tables e below (T115.setTop (mkF m 72 #[.val (.int p1), .val (.int p2), .val (.int p3), .val (.int p4), .val (.int p5), .val (.int p6), .val (.int p3), .val (.int p2), .val (.ref r82), .val (.ref r87), .val (.ref b94), .unset, .unset, .unset, .unset, .unset, .unset, .unset] [(.ref b115), (.ref b115)])) _
        refine XS.aload X115.here hx rfl (hb hby at_72) rfl rfl ?_
        show Steps p.tables e below (T115.setTop (mkF m 74 #[.val (.int p1), .val (.int p2), .val (.int p3), .val (.int p4), .val (.int p5), .val (.int p6), .val (.int p3), .val (.int p2), .val (.ref r82), .val (.ref r87), .val (.ref b94), .unset, .unset, .unset, .unset, .unset, .unset, .unset] [(.ref r87), (.ref b115), (.ref b115)])) _
        refine XS.iload X115.here hx rfl (hb hby at_74) rfl ?_
        show Steps p.tables e below (T115.setTop (mkF m 76 #[.val (.int p1), .val (.int p2), .val (.int p3), .val (.int p4), .val (.int p5), .val (.int p6), .val (.int p3), .val (.int p2), .val (.ref r82), .val (.ref r87), .val (.ref b94), .unset, .unset, .unset, .unset, .unset, .unset, .unset] [(.int p3), (.ref r87), (.ref b115), (.ref b115)])) _
        refine XS.iload X115.here hx rfl (hb hby at_76) rfl ?_
        show Steps p.tables e below (T115.setTop (mkF m 78 #[.val (.int p1), .val (.int p2), .val (.int p3), .val (.int p4), .val (.int p5), .val (.int p6), .val (.int p3), .val (.int p2), .val (.ref r82), .val (.ref r87), .val (.ref b94), .unset, .unset, .unset, .unset, .unset, .unset, .unset] [(.int p2), (.int p3), (.ref r87), (.ref b115), (.ref b115)])) _
        refine st127.trans ?_
        show Steps p.tables e below (T127.setTop (mkF m 81 #[.val (.int p1), .val (.int p2), .val (.int p3), .val (.int p4), .val (.int p5), .val (.int p6), .val (.int p3), .val (.int p2), .val (.ref r82), .val (.ref r87), .val (.ref b94), .unset, .unset, .unset, .unset, .unset, .unset, .unset] [(.ref b115)])) _
        refine XS.astore X127.here hx rfl (hb hby at_81) rfl rfl (l' := #[.val (.int p1), .val (.int p2), .val (.int p3), .val (.int p4), .val (.int p5), .val (.int p6), .val (.int p3), .val (.int p2), .val (.ref r82), .val (.ref r87), .val (.ref b94), .val (.ref b115), .unset, .unset, .unset, .unset, .unset, .unset]) rfl ?_
        show Steps p.tables e below (T127.setTop (mkF m 83 #[.val (.int p1), .val (.int p2), .val (.int p3), .val (.int p4), .val (.int p5), .val (.int p6), .val (.int p3), .val (.int p2), .val (.ref r82), .val (.ref r87), .val (.ref b94), .val (.ref b115), .unset, .unset, .unset, .unset, .unset, .unset] [])) _
        refine XS.aload X127.here hx rfl (hb hby at_83) rfl rfl ?_
        show Steps p.tables e below (T127.setTop (mkF m 85 #[.val (.int p1), .val (.int p2), .val (.int p3), .val (.int p4), .val (.int p5), .val (.int p6), .val (.int p3), .val (.int p2), .val (.ref r82), .val (.ref r87), .val (.ref b94), .val (.ref b115), .unset, .unset, .unset, .unset, .unset, .unset] [(.ref b94)])) _
        refine XS.aload X127.here hx rfl (hb hby at_85) rfl rfl ?_
        show Steps p.tables e below (T127.setTop (mkF m 87 #[.val (.int p1), .val (.int p2), .val (.int p3), .val (.int p4), .val (.int p5), .val (.int p6), .val (.int p3), .val (.int p2), .val (.ref r82), .val (.ref r87), .val (.ref b94), .val (.ref b115), .unset, .unset, .unset, .unset, .unset, .unset] [(.ref b115), (.ref b94)])) _
        refine st144.trans ?_
        show Steps p.tables e below (T144.setTop (mkF m 90 #[.val (.int p1), .val (.int p2), .val (.int p3), .val (.int p4), .val (.int p5), .val (.int p6), .val (.int p3), .val (.int p2), .val (.ref r82), .val (.ref r87), .val (.ref b94), .val (.ref b115), .unset, .unset, .unset, .unset, .unset, .unset] [(.int (own_f9 p1 p3 p2 p2))])) _
        refine XS.istore X144.here hx rfl (hb hby at_90) rfl (l' := #[.val (.int p1), .val (.int p2), .val (.int p3), .val (.int p4), .val (.int p5), .val (.int p6), .val (.int p3), .val (.int p2), .val (.ref r82), .val (.ref r87), .val (.ref b94), .val (.ref b115), .val (.int (own_f9 p1 p3 p2 p2)), .unset, .unset, .unset, .unset, .unset]) rfl ?_
        show Steps p.tables e below (T144.setTop (mkF m 92 #[.val (.int p1), .val (.int p2), .val (.int p3), .val (.int p4), .val (.int p5), .val (.int p6), .val (.int p3), .val (.int p2), .val (.ref r82), .val (.ref r87), .val (.ref b94), .val (.ref b115), .val (.int (own_f9 p1 p3 p2 p2)), .unset, .unset, .unset, .unset, .unset] [])) _
        refine XS.aload X144.here hx rfl (hb hby at_92) rfl rfl ?_
        show Steps p.tables e below (T144.setTop (mkF m 94 #[.val (.int p1), .val (.int p2), .val (.int p3), .val (.int p4), .val (.int p5), .val (.int p6), .val (.int p3), .val (.int p2), .val (.ref r82), .val (.ref r87), .val (.ref b94), .val (.ref b115), .val (.int (own_f9 p1 p3 p2 p2)), .unset, .unset, .unset, .unset, .unset] [(.ref b115)])) _
        refine XS.aload X144.here hx rfl (hb hby at_94) rfl rfl ?_
        show Steps p.tables e below (T144.setTop (mkF m 96 #[.val (.int p1), .val (.int p2), .val (.int p3), .val (.int p4), .val (.int p5), .val (.int p6), .val (.int p3), .val (.int p2), .val (.ref r82), .val (.ref r87), .val (.ref b94), .val (.ref b115), .val (.int (own_f9 p1 p3 p2 p2)), .unset, .unset, .unset, .unset, .unset] [(.ref b94), (.ref b115)])) _
        refine st146.trans ?_
        show Steps p.tables e below (T146.setTop (mkF m 99 #[.val (.int p1), .val (.int p2), .val (.int p3), .val (.int p4), .val (.int p5), .val (.int p6), .val (.int p3), .val (.int p2), .val (.ref r82), .val (.ref r87), .val (.ref b94), .val (.ref b115), .val (.int (own_f9 p1 p3 p2 p2)), .unset, .unset, .unset, .unset, .unset] [(.int (own_f9 p3 p1 p2 p2))])) _
        refine XS.istore X146.here hx rfl (hb hby at_99) rfl (l' := #[.val (.int p1), .val (.int p2), .val (.int p3), .val (.int p4), .val (.int p5), .val (.int p6), .val (.int p3), .val (.int p2), .val (.ref r82), .val (.ref r87), .val (.ref b94), .val (.ref b115), .val (.int (own_f9 p1 p3 p2 p2)), .val (.int (own_f9 p3 p1 p2 p2)), .unset, .unset, .unset, .unset]) rfl ?_
        show Steps p.tables e below (T146.setTop (mkF m 101 #[.val (.int p1), .val (.int p2), .val (.int p3), .val (.int p4), .val (.int p5), .val (.int p6), .val (.int p3), .val (.int p2), .val (.ref r82), .val (.ref r87), .val (.ref b94), .val (.ref b115), .val (.int (own_f9 p1 p3 p2 p2)), .val (.int (own_f9 p3 p1 p2 p2)), .unset, .unset, .unset, .unset] [])) _
        refine XS.iloadN X146.here hx rfl (hb hby at_101) rfl ?_
        show Steps p.tables e below (T146.setTop (mkF m 102 #[.val (.int p1), .val (.int p2), .val (.int p3), .val (.int p4), .val (.int p5), .val (.int p6), .val (.int p3), .val (.int p2), .val (.ref r82), .val (.ref r87), .val (.ref b94), .val (.ref b115), .val (.int (own_f9 p1 p3 p2 p2)), .val (.int (own_f9 p3 p1 p2 p2)), .unset, .unset, .unset, .unset] [(.int p1)])) _
        refine XS.iloadN X146.here hx rfl (hb hby at_102) rfl ?_
        show Steps p.tables e below (T146.setTop (mkF m 103 #[.val (.int p1), .val (.int p2), .val (.int p3), .val (.int p4), .val (.int p5), .val (.int p6), .val (.int p3), .val (.int p2), .val (.ref r82), .val (.ref r87), .val (.ref b94), .val (.ref b115), .val (.int (own_f9 p1 p3 p2 p2)), .val (.int (own_f9 p3 p1 p2 p2)), .unset, .unset, .unset, .unset] [(.int p2), (.int p1)])) _
        refine st148 _ ?_
        show Steps p.tables e below (T148.setTop (mkF m 106 #[.val (.int p1), .val (.int p2), .val (.int p3), .val (.int p4), .val (.int p5), .val (.int p6), .val (.int p3), .val (.int p2), .val (.ref r82), .val (.ref r87), .val (.ref b94), .val (.ref b115), .val (.int (own_f9 p1 p3 p2 p2)), .val (.int (own_f9 p3 p1 p2 p2)), .unset, .unset, .unset, .unset] [(.long (own_f10 p1 p2))])) _
        refine XS.lstore X148.here hx rfl (hb hby at_106) rfl (l' := #[.val (.int p1), .val (.int p2), .val (.int p3), .val (.int p4), .val (.int p5), .val (.int p6), .val (.int p3), .val (.int p2), .val (.ref r82), .val (.ref r87), .val (.ref b94), .val (.ref b115), .val (.int (own_f9 p1 p3 p2 p2)), .val (.int (own_f9 p3 p1 p2 p2)), .val (.long (own_f10 p1 p2)), .second, .unset, .unset]) rfl ?_
        show Steps p.tables e below (T148.setTop (mkF m 108 #[.val (.int p1), .val (.int p2), .val (.int p3), .val (.int p4), .val (.int p5), .val (.int p6), .val (.int p3), .val (.int p2), .val (.ref r82), .val (.ref r87), .val (.ref b94), .val (.ref b115), .val (.int (own_f9 p1 p3 p2 p2)), .val (.int (own_f9 p3 p1 p2 p2)), .val (.long (own_f10 p1 p2)), .second, .unset, .unset] [])) _
        refine XS.iload X148.here hx rfl (hb hby at_108) rfl ?_
        show Steps p.tables e below (T148.setTop (mkF m 110 #[.val (.int p1), .val (.int p2), .val (.int p3), .val (.int p4), .val (.int p5), .val (.int p6), .val (.int p3), .val (.int p2), .val (.ref r82), .val (.ref r87), .val (.ref b94), .val (.ref b115), .val (.int (own_f9 p1 p3 p2 p2)), .val (.int (own_f9 p3 p1 p2 p2)), .val (.long (own_f10 p1 p2)), .second, .unset, .unset] [(.int p3)])) _
        refine XS.iload X148.here hx rfl (hb hby at_110) rfl ?_
        show Steps p.tables e below (T148.setTop (mkF m 112 #[.val (.int p1), .val (.int p2), .val (.int p3), .val (.int p4), .val (.int p5), .val (.int p6), .val (.int p3), .val (.int p2), .val (.ref r82), .val (.ref r87), .val (.ref b94), .val (.ref b115), .val (.int (own_f9 p1 p3 p2 p2)), .val (.int (own_f9 p3 p1 p2 p2)), .val (.long (own_f10 p1 p2)), .second, .unset, .unset] [(.int p2), (.int p3)])) _
        refine st150 _ ?_
        show Steps p.tables e below (T150.setTop (mkF m 115 #[.val (.int p1), .val (.int p2), .val (.int p3), .val (.int p4), .val (.int p5), .val (.int p6), .val (.int p3), .val (.int p2), .val (.ref r82), .val (.ref r87), .val (.ref b94), .val (.ref b115), .val (.int (own_f9 p1 p3 p2 p2)), .val (.int (own_f9 p3 p1 p2 p2)), .val (.long (own_f10 p1 p2)), .second, .unset, .unset] [(.long (own_f10 p3 p2))])) _
        refine XS.lstore X150.here hx rfl (hb hby at_115) rfl (l' := #[.val (.int p1), .val (.int p2), .val (.int p3), .val (.int p4), .val (.int p5), .val (.int p6), .val (.int p3), .val (.int p2), .val (.ref r82), .val (.ref r87), .val (.ref b94), .val (.ref b115), .val (.int (own_f9 p1 p3 p2 p2)), .val (.int (own_f9 p3 p1 p2 p2)), .val (.long (own_f10 p1 p2)), .second, .val (.long (own_f10 p3 p2)), .second]) rfl ?_
        show Steps p.tables e below (T150.setTop (mkF m 117 #[.val (.int p1), .val (.int p2), .val (.int p3), .val (.int p4), .val (.int p5), .val (.int p6), .val (.int p3), .val (.int p2), .val (.ref r82), .val (.ref r87), .val (.ref b94), .val (.ref b115), .val (.int (own_f9 p1 p3 p2 p2)), .val (.int (own_f9 p3 p1 p2 p2)), .val (.long (own_f10 p1 p2)), .second, .val (.long (own_f10 p3 p2)), .second] [])) _
        refine XS.iload X150.here hx rfl (hb hby at_117) rfl ?_
        show Steps p.tables e below (T150.setTop (mkF m 119 #[.val (.int p1), .val (.int p2), .val (.int p3), .val (.int p4), .val (.int p5), .val (.int p6), .val (.int p3), .val (.int p2), .val (.ref r82), .val (.ref r87), .val (.ref b94), .val (.ref b115), .val (.int (own_f9 p1 p3 p2 p2)), .val (.int (own_f9 p3 p1 p2 p2)), .val (.long (own_f10 p1 p2)), .second, .val (.long (own_f10 p3 p2)), .second] [(.int (own_f9 p1 p3 p2 p2))])) _
        refine XS.lload X150.here hx rfl (hb hby at_119) rfl ?_
        show Steps p.tables e below (T150.setTop (mkF m 121 #[.val (.int p1), .val (.int p2), .val (.int p3), .val (.int p4), .val (.int p5), .val (.int p6), .val (.int p3), .val (.int p2), .val (.ref r82), .val (.ref r87), .val (.ref b94), .val (.ref b115), .val (.int (own_f9 p1 p3 p2 p2)), .val (.int (own_f9 p3 p1 p2 p2)), .val (.long (own_f10 p1 p2)), .second, .val (.long (own_f10 p3 p2)), .second] [(.long (own_f10 p1 p2)), (.int (own_f9 p1 p3 p2 p2))])) _
        refine XS.lload X150.here hx rfl (hb hby at_121) rfl ?_
        show Steps p.tables e below (T150.setTop (mkF m 123 #[.val (.int p1), .val (.int p2), .val (.int p3), .val (.int p4), .val (.int p5), .val (.int p6), .val (.int p3), .val (.int p2), .val (.ref r82), .val (.ref r87), .val (.ref b94), .val (.ref b115), .val (.int (own_f9 p1 p3 p2 p2)), .val (.int (own_f9 p3 p1 p2 p2)), .val (.long (own_f10 p1 p2)), .second, .val (.long (own_f10 p3 p2)), .second] [(.long (own_f10 p3 p2)), (.long (own_f10 p1 p2)), (.int (own_f9 p1 p3 p2 p2))])) _
        refine XS.lcmp X150.here hx rfl (hb hby at_123) rfl ?_
        exact kt
      by_cases hc12 : (lcmpW (own_f10 p1 p2) (own_f10 p3 p2)) < (0 : Int32)
      ·
        have k153 : ∀ t, Steps p.tables e below (T150.setTop (mkF m 132 #[.val (.int p1), .val (.int p2), .val (.int p3), .val (.int p4), .val (.int p5), .val (.int p6), .val (.int p3), .val (.int p2), .val (.ref r82), .val (.ref r87), .val (.ref b94), .val (.ref b115), .val (.int (own_f9 p1 p3 p2 p2)), .val (.int (own_f9 p3 p1 p2 p2)), .val (.long (own_f10 p1 p2)), .second, .val (.long (own_f10 p3 p2)), .second] [(.int (1 : Int32)), (.int (own_f9 p1 p3 p2 p2))])) t → Steps p.tables e below (s₁.setTop (entryFrame m #[(.int p1), (.int p2), (.int p3), (.int p4), (.int p5), (.int p6)] maxLocals)) t := by
          intro t kt
          refine k152 t ?_
          show Steps p.tables e below (T150.setTop (mkF m 124 #[.val (.int p1), .val (.int p2), .val (.int p3), .val (.int p4), .val (.int p5), .val (.int p6), .val (.int p3), .val (.int p2), .val (.ref r82), .val (.ref r87), .val (.ref b94), .val (.ref b115), .val (.int (own_f9 p1 p3 p2 p2)), .val (.int (own_f9 p3 p1 p2 p2)), .val (.long (own_f10 p1 p2)), .second, .val (.long (own_f10 p3 p2)), .second] [(.int (lcmpW (own_f10 p1 p2) (own_f10 p3 p2))), (.int (own_f9 p1 p3 p2 p2))])) _
          refine XS.ifNo X150.here hx rfl (hb hby at_124) rfl ((if0 _ _).trans (tlt hc12).2.1) ?_
          show Steps p.tables e below (T150.setTop (mkF m 127 #[.val (.int p1), .val (.int p2), .val (.int p3), .val (.int p4), .val (.int p5), .val (.int p6), .val (.int p3), .val (.int p2), .val (.ref r82), .val (.ref r87), .val (.ref b94), .val (.ref b115), .val (.int (own_f9 p1 p3 p2 p2)), .val (.int (own_f9 p3 p1 p2 p2)), .val (.long (own_f10 p1 p2)), .second, .val (.long (own_f10 p3 p2)), .second] [(.int (own_f9 p1 p3 p2 p2))])) _
          refine XS.iconst X150.here hx rfl (hb hby at_127) ?_
          show Steps p.tables e below (T150.setTop (mkF m 128 #[.val (.int p1), .val (.int p2), .val (.int p3), .val (.int p4), .val (.int p5), .val (.int p6), .val (.int p3), .val (.int p2), .val (.ref r82), .val (.ref r87), .val (.ref b94), .val (.ref b115), .val (.int (own_f9 p1 p3 p2 p2)), .val (.int (own_f9 p3 p1 p2 p2)), .val (.long (own_f10 p1 p2)), .second, .val (.long (own_f10 p3 p2)), .second] [(.int (1 : Int32)), (.int (own_f9 p1 p3 p2 p2))])) _
          refine XS.goto X150.here hx rfl (pc0 := 128) (pc' := 132) rfl (hb hby at_128) (by decide) (by decide) ?_
          exact kt
        by_cases hc13 : (own_f9 p1 p3 p2 p2) = (1 : Int32)
        ·
          have k154 : ∀ t, Steps p.tables e below (T150.setTop (mkF m 142 #[.val (.int p1), .val (.int p2), .val (.int p3), .val (.int p4), .val (.int p5), .val (.int p6), .val (.int p3), .val (.int p2), .val (.ref r82), .val (.ref r87), .val (.ref b94), .val (.ref b115), .val (.int (own_f9 p1 p3 p2 p2)), .val (.int (own_f9 p3 p1 p2 p2)), .val (.long (own_f10 p1 p2)), .second, .val (.long (own_f10 p3 p2)), .second] [(.int (lcmpW (own_f10 p3 p2) (own_f10 p1 p2))), (.int (own_f9 p3 p1 p2 p2))])) t → Steps p.tables e below (s₁.setTop (entryFrame m #[(.int p1), (.int p2), (.int p3), (.int p4), (.int p5), (.int p6)] maxLocals)) t := by
            intro t kt
            refine k153 t ?_
            show Steps p.tables e below (T150.setTop (mkF m 132 #[.val (.int p1), .val (.int p2), .val (.int p3), .val (.int p4), .val (.int p5), .val (.int p6), .val (.int p3), .val (.int p2), .val (.ref r82), .val (.ref r87), .val (.ref b94), .val (.ref b115), .val (.int (own_f9 p1 p3 p2 p2)), .val (.int (own_f9 p3 p1 p2 p2)), .val (.long (own_f10 p1 p2)), .second, .val (.long (own_f10 p3 p2)), .second] [(.int (1 : Int32)), (.int (own_f9 p1 p3 p2 p2))])) _
            refine XS.icmpNo X150.here hx rfl (hb hby at_132) rfl (teq hc13).2 ?_
            show Steps p.tables e below (T150.setTop (mkF m 135 #[.val (.int p1), .val (.int p2), .val (.int p3), .val (.int p4), .val (.int p5), .val (.int p6), .val (.int p3), .val (.int p2), .val (.ref r82), .val (.ref r87), .val (.ref b94), .val (.ref b115), .val (.int (own_f9 p1 p3 p2 p2)), .val (.int (own_f9 p3 p1 p2 p2)), .val (.long (own_f10 p1 p2)), .second, .val (.long (own_f10 p3 p2)), .second] [])) _
            refine XS.iload X150.here hx rfl (hb hby at_135) rfl ?_
            show Steps p.tables e below (T150.setTop (mkF m 137 #[.val (.int p1), .val (.int p2), .val (.int p3), .val (.int p4), .val (.int p5), .val (.int p6), .val (.int p3), .val (.int p2), .val (.ref r82), .val (.ref r87), .val (.ref b94), .val (.ref b115), .val (.int (own_f9 p1 p3 p2 p2)), .val (.int (own_f9 p3 p1 p2 p2)), .val (.long (own_f10 p1 p2)), .second, .val (.long (own_f10 p3 p2)), .second] [(.int (own_f9 p3 p1 p2 p2))])) _
            refine XS.lload X150.here hx rfl (hb hby at_137) rfl ?_
            show Steps p.tables e below (T150.setTop (mkF m 139 #[.val (.int p1), .val (.int p2), .val (.int p3), .val (.int p4), .val (.int p5), .val (.int p6), .val (.int p3), .val (.int p2), .val (.ref r82), .val (.ref r87), .val (.ref b94), .val (.ref b115), .val (.int (own_f9 p1 p3 p2 p2)), .val (.int (own_f9 p3 p1 p2 p2)), .val (.long (own_f10 p1 p2)), .second, .val (.long (own_f10 p3 p2)), .second] [(.long (own_f10 p3 p2)), (.int (own_f9 p3 p1 p2 p2))])) _
            refine XS.lload X150.here hx rfl (hb hby at_139) rfl ?_
            show Steps p.tables e below (T150.setTop (mkF m 141 #[.val (.int p1), .val (.int p2), .val (.int p3), .val (.int p4), .val (.int p5), .val (.int p6), .val (.int p3), .val (.int p2), .val (.ref r82), .val (.ref r87), .val (.ref b94), .val (.ref b115), .val (.int (own_f9 p1 p3 p2 p2)), .val (.int (own_f9 p3 p1 p2 p2)), .val (.long (own_f10 p1 p2)), .second, .val (.long (own_f10 p3 p2)), .second] [(.long (own_f10 p1 p2)), (.long (own_f10 p3 p2)), (.int (own_f9 p3 p1 p2 p2))])) _
            refine XS.lcmp X150.here hx rfl (hb hby at_141) rfl ?_
            exact kt
          by_cases hc14 : (lcmpW (own_f10 p3 p2) (own_f10 p1 p2)) < (0 : Int32)
          ·
            have k155 : ∀ t, Steps p.tables e below (T150.setTop (mkF m 150 #[.val (.int p1), .val (.int p2), .val (.int p3), .val (.int p4), .val (.int p5), .val (.int p6), .val (.int p3), .val (.int p2), .val (.ref r82), .val (.ref r87), .val (.ref b94), .val (.ref b115), .val (.int (own_f9 p1 p3 p2 p2)), .val (.int (own_f9 p3 p1 p2 p2)), .val (.long (own_f10 p1 p2)), .second, .val (.long (own_f10 p3 p2)), .second] [(.int (1 : Int32)), (.int (own_f9 p3 p1 p2 p2))])) t → Steps p.tables e below (s₁.setTop (entryFrame m #[(.int p1), (.int p2), (.int p3), (.int p4), (.int p5), (.int p6)] maxLocals)) t := by
              intro t kt
              refine k154 t ?_
              show Steps p.tables e below (T150.setTop (mkF m 142 #[.val (.int p1), .val (.int p2), .val (.int p3), .val (.int p4), .val (.int p5), .val (.int p6), .val (.int p3), .val (.int p2), .val (.ref r82), .val (.ref r87), .val (.ref b94), .val (.ref b115), .val (.int (own_f9 p1 p3 p2 p2)), .val (.int (own_f9 p3 p1 p2 p2)), .val (.long (own_f10 p1 p2)), .second, .val (.long (own_f10 p3 p2)), .second] [(.int (lcmpW (own_f10 p3 p2) (own_f10 p1 p2))), (.int (own_f9 p3 p1 p2 p2))])) _
              refine XS.ifNo X150.here hx rfl (hb hby at_142) rfl ((if0 _ _).trans (tlt hc14).2.1) ?_
              show Steps p.tables e below (T150.setTop (mkF m 145 #[.val (.int p1), .val (.int p2), .val (.int p3), .val (.int p4), .val (.int p5), .val (.int p6), .val (.int p3), .val (.int p2), .val (.ref r82), .val (.ref r87), .val (.ref b94), .val (.ref b115), .val (.int (own_f9 p1 p3 p2 p2)), .val (.int (own_f9 p3 p1 p2 p2)), .val (.long (own_f10 p1 p2)), .second, .val (.long (own_f10 p3 p2)), .second] [(.int (own_f9 p3 p1 p2 p2))])) _
              refine XS.iconst X150.here hx rfl (hb hby at_145) ?_
              show Steps p.tables e below (T150.setTop (mkF m 146 #[.val (.int p1), .val (.int p2), .val (.int p3), .val (.int p4), .val (.int p5), .val (.int p6), .val (.int p3), .val (.int p2), .val (.ref r82), .val (.ref r87), .val (.ref b94), .val (.ref b115), .val (.int (own_f9 p1 p3 p2 p2)), .val (.int (own_f9 p3 p1 p2 p2)), .val (.long (own_f10 p1 p2)), .second, .val (.long (own_f10 p3 p2)), .second] [(.int (1 : Int32)), (.int (own_f9 p3 p1 p2 p2))])) _
              refine XS.goto X150.here hx rfl (pc0 := 146) (pc' := 150) rfl (hb hby at_146) (by decide) (by decide) ?_
              exact kt
            by_cases hc15 : (own_f9 p3 p1 p2 p2) = (1 : Int32)
            ·
              obtain ⟨fs, hr, hrun, hended, hE⟩ := Stand.leaveW (s := s) (vm₁ := T127.vm) X150 hS127 (by rw [e150]; exact (Nat.le_refl _)) (hlocks := hlk) (v := some (.int (1 : Int32))) (fun h => by rw [Bd.returns] at h; cases h)
              refine ⟨_, _, k155 _ ?_, hrun, hended, _, _, rfl, ?_, hE.1, hE.2.1, hE.2.2.1, hE.2.2.2.mono (by decide) (by decide)⟩
              · show Steps p.tables e below (T150.setTop (mkF m 150 #[.val (.int p1), .val (.int p2), .val (.int p3), .val (.int p4), .val (.int p5), .val (.int p6), .val (.int p3), .val (.int p2), .val (.ref r82), .val (.ref r87), .val (.ref b94), .val (.ref b115), .val (.int (own_f9 p1 p3 p2 p2)), .val (.int (own_f9 p3 p1 p2 p2)), .val (.long (own_f10 p1 p2)), .second, .val (.long (own_f10 p3 p2)), .second] [(.int (1 : Int32)), (.int (own_f9 p3 p1 p2 p2))])) _
                refine XS.icmpNo X150.here hx rfl (hb hby at_150) rfl (teq hc15).2 ?_
                show Steps p.tables e below (T150.setTop (mkF m 153 #[.val (.int p1), .val (.int p2), .val (.int p3), .val (.int p4), .val (.int p5), .val (.int p6), .val (.int p3), .val (.int p2), .val (.ref r82), .val (.ref r87), .val (.ref b94), .val (.ref b115), .val (.int (own_f9 p1 p3 p2 p2)), .val (.int (own_f9 p3 p1 p2 p2)), .val (.long (own_f10 p1 p2)), .second, .val (.long (own_f10 p3 p2)), .second] [])) _
                refine XS.iconst X150.here hx rfl (hb hby at_153) ?_
                show Steps p.tables e below (T150.setTop (mkF m 154 #[.val (.int p1), .val (.int p2), .val (.int p3), .val (.int p4), .val (.int p5), .val (.int p6), .val (.int p3), .val (.int p2), .val (.ref r82), .val (.ref r87), .val (.ref b94), .val (.ref b115), .val (.int (own_f9 p1 p3 p2 p2)), .val (.int (own_f9 p3 p1 p2 p2)), .val (.long (own_f10 p1 p2)), .second, .val (.long (own_f10 p3 p2)), .second] [(.int (1 : Int32))])) _
                refine XS.goto X150.here hx rfl (pc0 := 154) (pc' := 158) rfl (hb hby at_154) (by decide) (by decide) ?_
                show Steps p.tables e below (T150.setTop (mkF m 158 #[.val (.int p1), .val (.int p2), .val (.int p3), .val (.int p4), .val (.int p5), .val (.int p6), .val (.int p3), .val (.int p2), .val (.ref r82), .val (.ref r87), .val (.ref b94), .val (.ref b115), .val (.int (own_f9 p1 p3 p2 p2)), .val (.int (own_f9 p3 p1 p2 p2)), .val (.long (own_f10 p1 p2)), .second, .val (.long (own_f10 p3 p2)), .second] [(.int (1 : Int32))])) _
                exact retN X150 hx (t := .boolean) Bd.returns (by simp) (hb hby at_158) hr
              · show own_Q0 Z p1 p2 p3 p4 p5 p6 w_COMPACT_STRINGS h0 n0 _ T150.heap _
                rw [e150]
                exact ⟨(by rw [own_f0, if_pos hc1, if_neg hc2, if_pos hc12, if_pos hc13, if_pos hc14, if_pos hc15]), N151⟩
            ·
              obtain ⟨fs, hr, hrun, hended, hE⟩ := Stand.leaveW (s := s) (vm₁ := T127.vm) X150 hS127 (by rw [e150]; exact (Nat.le_refl _)) (hlocks := hlk) (v := some (.int (0 : Int32))) (fun h => by rw [Bd.returns] at h; cases h)
              refine ⟨_, _, k155 _ ?_, hrun, hended, _, _, rfl, ?_, hE.1, hE.2.1, hE.2.2.1, hE.2.2.2.mono (by decide) (by decide)⟩
              · show Steps p.tables e below (T150.setTop (mkF m 150 #[.val (.int p1), .val (.int p2), .val (.int p3), .val (.int p4), .val (.int p5), .val (.int p6), .val (.int p3), .val (.int p2), .val (.ref r82), .val (.ref r87), .val (.ref b94), .val (.ref b115), .val (.int (own_f9 p1 p3 p2 p2)), .val (.int (own_f9 p3 p1 p2 p2)), .val (.long (own_f10 p1 p2)), .second, .val (.long (own_f10 p3 p2)), .second] [(.int (1 : Int32)), (.int (own_f9 p3 p1 p2 p2))])) _
                refine XS.icmpYes X150.here hx rfl (pc0 := 150) (pc' := 157) rfl (hb hby at_150) rfl (feq hc15).2 (by decide) (by decide) ?_
                show Steps p.tables e below (T150.setTop (mkF m 157 #[.val (.int p1), .val (.int p2), .val (.int p3), .val (.int p4), .val (.int p5), .val (.int p6), .val (.int p3), .val (.int p2), .val (.ref r82), .val (.ref r87), .val (.ref b94), .val (.ref b115), .val (.int (own_f9 p1 p3 p2 p2)), .val (.int (own_f9 p3 p1 p2 p2)), .val (.long (own_f10 p1 p2)), .second, .val (.long (own_f10 p3 p2)), .second] [])) _
                refine XS.iconst X150.here hx rfl (hb hby at_157) ?_
                show Steps p.tables e below (T150.setTop (mkF m 158 #[.val (.int p1), .val (.int p2), .val (.int p3), .val (.int p4), .val (.int p5), .val (.int p6), .val (.int p3), .val (.int p2), .val (.ref r82), .val (.ref r87), .val (.ref b94), .val (.ref b115), .val (.int (own_f9 p1 p3 p2 p2)), .val (.int (own_f9 p3 p1 p2 p2)), .val (.long (own_f10 p1 p2)), .second, .val (.long (own_f10 p3 p2)), .second] [(.int (0 : Int32))])) _
                exact retN X150 hx (t := .boolean) Bd.returns (by simp) (hb hby at_158) hr
              · show own_Q0 Z p1 p2 p3 p4 p5 p6 w_COMPACT_STRINGS h0 n0 _ T150.heap _
                rw [e150]
                exact ⟨(by rw [own_f0, if_pos hc1, if_neg hc2, if_pos hc12, if_pos hc13, if_pos hc14, if_neg hc15]), N151⟩
          ·
            have k156 : ∀ t, Steps p.tables e below (T150.setTop (mkF m 150 #[.val (.int p1), .val (.int p2), .val (.int p3), .val (.int p4), .val (.int p5), .val (.int p6), .val (.int p3), .val (.int p2), .val (.ref r82), .val (.ref r87), .val (.ref b94), .val (.ref b115), .val (.int (own_f9 p1 p3 p2 p2)), .val (.int (own_f9 p3 p1 p2 p2)), .val (.long (own_f10 p1 p2)), .second, .val (.long (own_f10 p3 p2)), .second] [(.int (0 : Int32)), (.int (own_f9 p3 p1 p2 p2))])) t → Steps p.tables e below (s₁.setTop (entryFrame m #[(.int p1), (.int p2), (.int p3), (.int p4), (.int p5), (.int p6)] maxLocals)) t := by
              intro t kt
              refine k154 t ?_
              show Steps p.tables e below (T150.setTop (mkF m 142 #[.val (.int p1), .val (.int p2), .val (.int p3), .val (.int p4), .val (.int p5), .val (.int p6), .val (.int p3), .val (.int p2), .val (.ref r82), .val (.ref r87), .val (.ref b94), .val (.ref b115), .val (.int (own_f9 p1 p3 p2 p2)), .val (.int (own_f9 p3 p1 p2 p2)), .val (.long (own_f10 p1 p2)), .second, .val (.long (own_f10 p3 p2)), .second] [(.int (lcmpW (own_f10 p3 p2) (own_f10 p1 p2))), (.int (own_f9 p3 p1 p2 p2))])) _
              refine XS.ifYes X150.here hx rfl (pc0 := 142) (pc' := 149) rfl (hb hby at_142) rfl ((if0 _ _).trans (flt hc14).2.1) (by decide) (by decide) ?_
              show Steps p.tables e below (T150.setTop (mkF m 149 #[.val (.int p1), .val (.int p2), .val (.int p3), .val (.int p4), .val (.int p5), .val (.int p6), .val (.int p3), .val (.int p2), .val (.ref r82), .val (.ref r87), .val (.ref b94), .val (.ref b115), .val (.int (own_f9 p1 p3 p2 p2)), .val (.int (own_f9 p3 p1 p2 p2)), .val (.long (own_f10 p1 p2)), .second, .val (.long (own_f10 p3 p2)), .second] [(.int (own_f9 p3 p1 p2 p2))])) _
              refine XS.iconst X150.here hx rfl (hb hby at_149) ?_
              exact kt
            by_cases hc16 : (own_f9 p3 p1 p2 p2) = (0 : Int32)
            ·
              obtain ⟨fs, hr, hrun, hended, hE⟩ := Stand.leaveW (s := s) (vm₁ := T127.vm) X150 hS127 (by rw [e150]; exact (Nat.le_refl _)) (hlocks := hlk) (v := some (.int (1 : Int32))) (fun h => by rw [Bd.returns] at h; cases h)
              refine ⟨_, _, k156 _ ?_, hrun, hended, _, _, rfl, ?_, hE.1, hE.2.1, hE.2.2.1, hE.2.2.2.mono (by decide) (by decide)⟩
              · show Steps p.tables e below (T150.setTop (mkF m 150 #[.val (.int p1), .val (.int p2), .val (.int p3), .val (.int p4), .val (.int p5), .val (.int p6), .val (.int p3), .val (.int p2), .val (.ref r82), .val (.ref r87), .val (.ref b94), .val (.ref b115), .val (.int (own_f9 p1 p3 p2 p2)), .val (.int (own_f9 p3 p1 p2 p2)), .val (.long (own_f10 p1 p2)), .second, .val (.long (own_f10 p3 p2)), .second] [(.int (0 : Int32)), (.int (own_f9 p3 p1 p2 p2))])) _
                refine XS.icmpNo X150.here hx rfl (hb hby at_150) rfl (teq hc16).2 ?_
                show Steps p.tables e below (T150.setTop (mkF m 153 #[.val (.int p1), .val (.int p2), .val (.int p3), .val (.int p4), .val (.int p5), .val (.int p6), .val (.int p3), .val (.int p2), .val (.ref r82), .val (.ref r87), .val (.ref b94), .val (.ref b115), .val (.int (own_f9 p1 p3 p2 p2)), .val (.int (own_f9 p3 p1 p2 p2)), .val (.long (own_f10 p1 p2)), .second, .val (.long (own_f10 p3 p2)), .second] [])) _
                refine XS.iconst X150.here hx rfl (hb hby at_153) ?_
                show Steps p.tables e below (T150.setTop (mkF m 154 #[.val (.int p1), .val (.int p2), .val (.int p3), .val (.int p4), .val (.int p5), .val (.int p6), .val (.int p3), .val (.int p2), .val (.ref r82), .val (.ref r87), .val (.ref b94), .val (.ref b115), .val (.int (own_f9 p1 p3 p2 p2)), .val (.int (own_f9 p3 p1 p2 p2)), .val (.long (own_f10 p1 p2)), .second, .val (.long (own_f10 p3 p2)), .second] [(.int (1 : Int32))])) _
                refine XS.goto X150.here hx rfl (pc0 := 154) (pc' := 158) rfl (hb hby at_154) (by decide) (by decide) ?_
                show Steps p.tables e below (T150.setTop (mkF m 158 #[.val (.int p1), .val (.int p2), .val (.int p3), .val (.int p4), .val (.int p5), .val (.int p6), .val (.int p3), .val (.int p2), .val (.ref r82), .val (.ref r87), .val (.ref b94), .val (.ref b115), .val (.int (own_f9 p1 p3 p2 p2)), .val (.int (own_f9 p3 p1 p2 p2)), .val (.long (own_f10 p1 p2)), .second, .val (.long (own_f10 p3 p2)), .second] [(.int (1 : Int32))])) _
                exact retN X150 hx (t := .boolean) Bd.returns (by simp) (hb hby at_158) hr
              · show own_Q0 Z p1 p2 p3 p4 p5 p6 w_COMPACT_STRINGS h0 n0 _ T150.heap _
                rw [e150]
                exact ⟨(by rw [own_f0, if_pos hc1, if_neg hc2, if_pos hc12, if_pos hc13, if_neg hc14, if_pos hc16]), N151⟩
            ·
              obtain ⟨fs, hr, hrun, hended, hE⟩ := Stand.leaveW (s := s) (vm₁ := T127.vm) X150 hS127 (by rw [e150]; exact (Nat.le_refl _)) (hlocks := hlk) (v := some (.int (0 : Int32))) (fun h => by rw [Bd.returns] at h; cases h)
              refine ⟨_, _, k156 _ ?_, hrun, hended, _, _, rfl, ?_, hE.1, hE.2.1, hE.2.2.1, hE.2.2.2.mono (by decide) (by decide)⟩
              · show Steps p.tables e below (T150.setTop (mkF m 150 #[.val (.int p1), .val (.int p2), .val (.int p3), .val (.int p4), .val (.int p5), .val (.int p6), .val (.int p3), .val (.int p2), .val (.ref r82), .val (.ref r87), .val (.ref b94), .val (.ref b115), .val (.int (own_f9 p1 p3 p2 p2)), .val (.int (own_f9 p3 p1 p2 p2)), .val (.long (own_f10 p1 p2)), .second, .val (.long (own_f10 p3 p2)), .second] [(.int (0 : Int32)), (.int (own_f9 p3 p1 p2 p2))])) _
                refine XS.icmpYes X150.here hx rfl (pc0 := 150) (pc' := 157) rfl (hb hby at_150) rfl (feq hc16).2 (by decide) (by decide) ?_
                show Steps p.tables e below (T150.setTop (mkF m 157 #[.val (.int p1), .val (.int p2), .val (.int p3), .val (.int p4), .val (.int p5), .val (.int p6), .val (.int p3), .val (.int p2), .val (.ref r82), .val (.ref r87), .val (.ref b94), .val (.ref b115), .val (.int (own_f9 p1 p3 p2 p2)), .val (.int (own_f9 p3 p1 p2 p2)), .val (.long (own_f10 p1 p2)), .second, .val (.long (own_f10 p3 p2)), .second] [])) _
                refine XS.iconst X150.here hx rfl (hb hby at_157) ?_
                show Steps p.tables e below (T150.setTop (mkF m 158 #[.val (.int p1), .val (.int p2), .val (.int p3), .val (.int p4), .val (.int p5), .val (.int p6), .val (.int p3), .val (.int p2), .val (.ref r82), .val (.ref r87), .val (.ref b94), .val (.ref b115), .val (.int (own_f9 p1 p3 p2 p2)), .val (.int (own_f9 p3 p1 p2 p2)), .val (.long (own_f10 p1 p2)), .second, .val (.long (own_f10 p3 p2)), .second] [(.int (0 : Int32))])) _
                exact retN X150 hx (t := .boolean) Bd.returns (by simp) (hb hby at_158) hr
              · show own_Q0 Z p1 p2 p3 p4 p5 p6 w_COMPACT_STRINGS h0 n0 _ T150.heap _
                rw [e150]
                exact ⟨(by rw [own_f0, if_pos hc1, if_neg hc2, if_pos hc12, if_pos hc13, if_neg hc14, if_neg hc16]), N151⟩
        ·
          obtain ⟨fs, hr, hrun, hended, hE⟩ := Stand.leaveW (s := s) (vm₁ := T127.vm) X150 hS127 (by rw [e150]; exact (Nat.le_refl _)) (hlocks := hlk) (v := some (.int (0 : Int32))) (fun h => by rw [Bd.returns] at h; cases h)
          refine ⟨_, _, k153 _ ?_, hrun, hended, _, _, rfl, ?_, hE.1, hE.2.1, hE.2.2.1, hE.2.2.2.mono (by decide) (by decide)⟩
          · show Steps p.tables e below (T150.setTop (mkF m 132 #[.val (.int p1), .val (.int p2), .val (.int p3), .val (.int p4), .val (.int p5), .val (.int p6), .val (.int p3), .val (.int p2), .val (.ref r82), .val (.ref r87), .val (.ref b94), .val (.ref b115), .val (.int (own_f9 p1 p3 p2 p2)), .val (.int (own_f9 p3 p1 p2 p2)), .val (.long (own_f10 p1 p2)), .second, .val (.long (own_f10 p3 p2)), .second] [(.int (1 : Int32)), (.int (own_f9 p1 p3 p2 p2))])) _
            refine XS.icmpYes X150.here hx rfl (pc0 := 132) (pc' := 157) rfl (hb hby at_132) rfl (feq hc13).2 (by decide) (by decide) ?_
            show Steps p.tables e below (T150.setTop (mkF m 157 #[.val (.int p1), .val (.int p2), .val (.int p3), .val (.int p4), .val (.int p5), .val (.int p6), .val (.int p3), .val (.int p2), .val (.ref r82), .val (.ref r87), .val (.ref b94), .val (.ref b115), .val (.int (own_f9 p1 p3 p2 p2)), .val (.int (own_f9 p3 p1 p2 p2)), .val (.long (own_f10 p1 p2)), .second, .val (.long (own_f10 p3 p2)), .second] [])) _
            refine XS.iconst X150.here hx rfl (hb hby at_157) ?_
            show Steps p.tables e below (T150.setTop (mkF m 158 #[.val (.int p1), .val (.int p2), .val (.int p3), .val (.int p4), .val (.int p5), .val (.int p6), .val (.int p3), .val (.int p2), .val (.ref r82), .val (.ref r87), .val (.ref b94), .val (.ref b115), .val (.int (own_f9 p1 p3 p2 p2)), .val (.int (own_f9 p3 p1 p2 p2)), .val (.long (own_f10 p1 p2)), .second, .val (.long (own_f10 p3 p2)), .second] [(.int (0 : Int32))])) _
            exact retN X150 hx (t := .boolean) Bd.returns (by simp) (hb hby at_158) hr
          · show own_Q0 Z p1 p2 p3 p4 p5 p6 w_COMPACT_STRINGS h0 n0 _ T150.heap _
            rw [e150]
            exact ⟨(by rw [own_f0, if_pos hc1, if_neg hc2, if_pos hc12, if_neg hc13]), N151⟩
      ·
        have k157 : ∀ t, Steps p.tables e below (T150.setTop (mkF m 132 #[.val (.int p1), .val (.int p2), .val (.int p3), .val (.int p4), .val (.int p5), .val (.int p6), .val (.int p3), .val (.int p2), .val (.ref r82), .val (.ref r87), .val (.ref b94), .val (.ref b115), .val (.int (own_f9 p1 p3 p2 p2)), .val (.int (own_f9 p3 p1 p2 p2)), .val (.long (own_f10 p1 p2)), .second, .val (.long (own_f10 p3 p2)), .second] [(.int (0 : Int32)), (.int (own_f9 p1 p3 p2 p2))])) t → Steps p.tables e below (s₁.setTop (entryFrame m #[(.int p1), (.int p2), (.int p3), (.int p4), (.int p5), (.int p6)] maxLocals)) t := by
          intro t kt
          refine k152 t ?_
          show Steps p.tables e below (T150.setTop (mkF m 124 #[.val (.int p1), .val (.int p2), .val (.int p3), .val (.int p4), .val (.int p5), .val (.int p6), .val (.int p3), .val (.int p2), .val (.ref r82), .val (.ref r87), .val (.ref b94), .val (.ref b115), .val (.int (own_f9 p1 p3 p2 p2)), .val (.int (own_f9 p3 p1 p2 p2)), .val (.long (own_f10 p1 p2)), .second, .val (.long (own_f10 p3 p2)), .second] [(.int (lcmpW (own_f10 p1 p2) (own_f10 p3 p2))), (.int (own_f9 p1 p3 p2 p2))])) _
          refine XS.ifYes X150.here hx rfl (pc0 := 124) (pc' := 131) rfl (hb hby at_124) rfl ((if0 _ _).trans (flt hc12).2.1) (by decide) (by decide) ?_
          show Steps p.tables e below (T150.setTop (mkF m 131 #[.val (.int p1), .val (.int p2), .val (.int p3), .val (.int p4), .val (.int p5), .val (.int p6), .val (.int p3), .val (.int p2), .val (.ref r82), .val (.ref r87), .val (.ref b94), .val (.ref b115), .val (.int (own_f9 p1 p3 p2 p2)), .val (.int (own_f9 p3 p1 p2 p2)), .val (.long (own_f10 p1 p2)), .second, .val (.long (own_f10 p3 p2)), .second] [(.int (own_f9 p1 p3 p2 p2))])) _
          refine XS.iconst X150.here hx rfl (hb hby at_131) ?_
          exact kt
        by_cases hc17 : (own_f9 p1 p3 p2 p2) = (0 : Int32)
        ·
          have k158 : ∀ t, Steps p.tables e below (T150.setTop (mkF m 142 #[.val (.int p1), .val (.int p2), .val (.int p3), .val (.int p4), .val (.int p5), .val (.int p6), .val (.int p3), .val (.int p2), .val (.ref r82), .val (.ref r87), .val (.ref b94), .val (.ref b115), .val (.int (own_f9 p1 p3 p2 p2)), .val (.int (own_f9 p3 p1 p2 p2)), .val (.long (own_f10 p1 p2)), .second, .val (.long (own_f10 p3 p2)), .second] [(.int (lcmpW (own_f10 p3 p2) (own_f10 p1 p2))), (.int (own_f9 p3 p1 p2 p2))])) t → Steps p.tables e below (s₁.setTop (entryFrame m #[(.int p1), (.int p2), (.int p3), (.int p4), (.int p5), (.int p6)] maxLocals)) t := by
            intro t kt
            refine k157 t ?_
            show Steps p.tables e below (T150.setTop (mkF m 132 #[.val (.int p1), .val (.int p2), .val (.int p3), .val (.int p4), .val (.int p5), .val (.int p6), .val (.int p3), .val (.int p2), .val (.ref r82), .val (.ref r87), .val (.ref b94), .val (.ref b115), .val (.int (own_f9 p1 p3 p2 p2)), .val (.int (own_f9 p3 p1 p2 p2)), .val (.long (own_f10 p1 p2)), .second, .val (.long (own_f10 p3 p2)), .second] [(.int (0 : Int32)), (.int (own_f9 p1 p3 p2 p2))])) _
            refine XS.icmpNo X150.here hx rfl (hb hby at_132) rfl (teq hc17).2 ?_
            show Steps p.tables e below (T150.setTop (mkF m 135 #[.val (.int p1), .val (.int p2), .val (.int p3), .val (.int p4), .val (.int p5), .val (.int p6), .val (.int p3), .val (.int p2), .val (.ref r82), .val (.ref r87), .val (.ref b94), .val (.ref b115), .val (.int (own_f9 p1 p3 p2 p2)), .val (.int (own_f9 p3 p1 p2 p2)), .val (.long (own_f10 p1 p2)), .second, .val (.long (own_f10 p3 p2)), .second] [])) _
            refine XS.iload X150.here hx rfl (hb hby at_135) rfl ?_
            show Steps p.tables e below (T150.setTop (mkF m 137 #[.val (.int p1), .val (.int p2), .val (.int p3), .val (.int p4), .val (.int p5), .val (.int p6), .val (.int p3), .val (.int p2), .val (.ref r82), .val (.ref r87), .val (.ref b94), .val (.ref b115), .val (.int (own_f9 p1 p3 p2 p2)), .val (.int (own_f9 p3 p1 p2 p2)), .val (.long (own_f10 p1 p2)), .second, .val (.long (own_f10 p3 p2)), .second] [(.int (own_f9 p3 p1 p2 p2))])) _
            refine XS.lload X150.here hx rfl (hb hby at_137) rfl ?_
            show Steps p.tables e below (T150.setTop (mkF m 139 #[.val (.int p1), .val (.int p2), .val (.int p3), .val (.int p4), .val (.int p5), .val (.int p6), .val (.int p3), .val (.int p2), .val (.ref r82), .val (.ref r87), .val (.ref b94), .val (.ref b115), .val (.int (own_f9 p1 p3 p2 p2)), .val (.int (own_f9 p3 p1 p2 p2)), .val (.long (own_f10 p1 p2)), .second, .val (.long (own_f10 p3 p2)), .second] [(.long (own_f10 p3 p2)), (.int (own_f9 p3 p1 p2 p2))])) _
            refine XS.lload X150.here hx rfl (hb hby at_139) rfl ?_
            show Steps p.tables e below (T150.setTop (mkF m 141 #[.val (.int p1), .val (.int p2), .val (.int p3), .val (.int p4), .val (.int p5), .val (.int p6), .val (.int p3), .val (.int p2), .val (.ref r82), .val (.ref r87), .val (.ref b94), .val (.ref b115), .val (.int (own_f9 p1 p3 p2 p2)), .val (.int (own_f9 p3 p1 p2 p2)), .val (.long (own_f10 p1 p2)), .second, .val (.long (own_f10 p3 p2)), .second] [(.long (own_f10 p1 p2)), (.long (own_f10 p3 p2)), (.int (own_f9 p3 p1 p2 p2))])) _
            refine XS.lcmp X150.here hx rfl (hb hby at_141) rfl ?_
            exact kt
          by_cases hc18 : (lcmpW (own_f10 p3 p2) (own_f10 p1 p2)) < (0 : Int32)
          ·
            have k159 : ∀ t, Steps p.tables e below (T150.setTop (mkF m 150 #[.val (.int p1), .val (.int p2), .val (.int p3), .val (.int p4), .val (.int p5), .val (.int p6), .val (.int p3), .val (.int p2), .val (.ref r82), .val (.ref r87), .val (.ref b94), .val (.ref b115), .val (.int (own_f9 p1 p3 p2 p2)), .val (.int (own_f9 p3 p1 p2 p2)), .val (.long (own_f10 p1 p2)), .second, .val (.long (own_f10 p3 p2)), .second] [(.int (1 : Int32)), (.int (own_f9 p3 p1 p2 p2))])) t → Steps p.tables e below (s₁.setTop (entryFrame m #[(.int p1), (.int p2), (.int p3), (.int p4), (.int p5), (.int p6)] maxLocals)) t := by
              intro t kt
              refine k158 t ?_
              show Steps p.tables e below (T150.setTop (mkF m 142 #[.val (.int p1), .val (.int p2), .val (.int p3), .val (.int p4), .val (.int p5), .val (.int p6), .val (.int p3), .val (.int p2), .val (.ref r82), .val (.ref r87), .val (.ref b94), .val (.ref b115), .val (.int (own_f9 p1 p3 p2 p2)), .val (.int (own_f9 p3 p1 p2 p2)), .val (.long (own_f10 p1 p2)), .second, .val (.long (own_f10 p3 p2)), .second] [(.int (lcmpW (own_f10 p3 p2) (own_f10 p1 p2))), (.int (own_f9 p3 p1 p2 p2))])) _
              refine XS.ifNo X150.here hx rfl (hb hby at_142) rfl ((if0 _ _).trans (tlt hc18).2.1) ?_
              show Steps p.tables e below (T150.setTop (mkF m 145 #[.val (.int p1), .val (.int p2), .val (.int p3), .val (.int p4), .val (.int p5), .val (.int p6), .val (.int p3), .val (.int p2), .val (.ref r82), .val (.ref r87), .val (.ref b94), .val (.ref b115), .val (.int (own_f9 p1 p3 p2 p2)), .val (.int (own_f9 p3 p1 p2 p2)), .val (.long (own_f10 p1 p2)), .second, .val (.long (own_f10 p3 p2)), .second] [(.int (own_f9 p3 p1 p2 p2))])) _
              refine XS.iconst X150.here hx rfl (hb hby at_145) ?_
              show Steps p.tables e below (T150.setTop (mkF m 146 #[.val (.int p1), .val (.int p2), .val (.int p3), .val (.int p4), .val (.int p5), .val (.int p6), .val (.int p3), .val (.int p2), .val (.ref r82), .val (.ref r87), .val (.ref b94), .val (.ref b115), .val (.int (own_f9 p1 p3 p2 p2)), .val (.int (own_f9 p3 p1 p2 p2)), .val (.long (own_f10 p1 p2)), .second, .val (.long (own_f10 p3 p2)), .second] [(.int (1 : Int32)), (.int (own_f9 p3 p1 p2 p2))])) _
              refine XS.goto X150.here hx rfl (pc0 := 146) (pc' := 150) rfl (hb hby at_146) (by decide) (by decide) ?_
              exact kt
            by_cases hc19 : (own_f9 p3 p1 p2 p2) = (1 : Int32)
            ·
              obtain ⟨fs, hr, hrun, hended, hE⟩ := Stand.leaveW (s := s) (vm₁ := T127.vm) X150 hS127 (by rw [e150]; exact (Nat.le_refl _)) (hlocks := hlk) (v := some (.int (1 : Int32))) (fun h => by rw [Bd.returns] at h; cases h)
              refine ⟨_, _, k159 _ ?_, hrun, hended, _, _, rfl, ?_, hE.1, hE.2.1, hE.2.2.1, hE.2.2.2.mono (by decide) (by decide)⟩
              · show Steps p.tables e below (T150.setTop (mkF m 150 #[.val (.int p1), .val (.int p2), .val (.int p3), .val (.int p4), .val (.int p5), .val (.int p6), .val (.int p3), .val (.int p2), .val (.ref r82), .val (.ref r87), .val (.ref b94), .val (.ref b115), .val (.int (own_f9 p1 p3 p2 p2)), .val (.int (own_f9 p3 p1 p2 p2)), .val (.long (own_f10 p1 p2)), .second, .val (.long (own_f10 p3 p2)), .second] [(.int (1 : Int32)), (.int (own_f9 p3 p1 p2 p2))])) _
                refine XS.icmpNo X150.here hx rfl (hb hby at_150) rfl (teq hc19).2 ?_
                show Steps p.tables e below (T150.setTop (mkF m 153 #[.val (.int p1), .val (.int p2), .val (.int p3), .val (.int p4), .val (.int p5), .val (.int p6), .val (.int p3), .val (.int p2), .val (.ref r82), .val (.ref r87), .val (.ref b94), .val (.ref b115), .val (.int (own_f9 p1 p3 p2 p2)), .val (.int (own_f9 p3 p1 p2 p2)), .val (.long (own_f10 p1 p2)), .second, .val (.long (own_f10 p3 p2)), .second] [])) _
                refine XS.iconst X150.here hx rfl (hb hby at_153) ?_
                show Steps p.tables e below (T150.setTop (mkF m 154 #[.val (.int p1), .val (.int p2), .val (.int p3), .val (.int p4), .val (.int p5), .val (.int p6), .val (.int p3), .val (.int p2), .val (.ref r82), .val (.ref r87), .val (.ref b94), .val (.ref b115), .val (.int (own_f9 p1 p3 p2 p2)), .val (.int (own_f9 p3 p1 p2 p2)), .val (.long (own_f10 p1 p2)), .second, .val (.long (own_f10 p3 p2)), .second] [(.int (1 : Int32))])) _
                refine XS.goto X150.here hx rfl (pc0 := 154) (pc' := 158) rfl (hb hby at_154) (by decide) (by decide) ?_
                show Steps p.tables e below (T150.setTop (mkF m 158 #[.val (.int p1), .val (.int p2), .val (.int p3), .val (.int p4), .val (.int p5), .val (.int p6), .val (.int p3), .val (.int p2), .val (.ref r82), .val (.ref r87), .val (.ref b94), .val (.ref b115), .val (.int (own_f9 p1 p3 p2 p2)), .val (.int (own_f9 p3 p1 p2 p2)), .val (.long (own_f10 p1 p2)), .second, .val (.long (own_f10 p3 p2)), .second] [(.int (1 : Int32))])) _
                exact retN X150 hx (t := .boolean) Bd.returns (by simp) (hb hby at_158) hr
              · show own_Q0 Z p1 p2 p3 p4 p5 p6 w_COMPACT_STRINGS h0 n0 _ T150.heap _
                rw [e150]
                exact ⟨(by rw [own_f0, if_pos hc1, if_neg hc2, if_neg hc12, if_pos hc17, if_pos hc18, if_pos hc19]), N151⟩
            ·
              obtain ⟨fs, hr, hrun, hended, hE⟩ := Stand.leaveW (s := s) (vm₁ := T127.vm) X150 hS127 (by rw [e150]; exact (Nat.le_refl _)) (hlocks := hlk) (v := some (.int (0 : Int32))) (fun h => by rw [Bd.returns] at h; cases h)
              refine ⟨_, _, k159 _ ?_, hrun, hended, _, _, rfl, ?_, hE.1, hE.2.1, hE.2.2.1, hE.2.2.2.mono (by decide) (by decide)⟩
              · show Steps p.tables e below (T150.setTop (mkF m 150 #[.val (.int p1), .val (.int p2), .val (.int p3), .val (.int p4), .val (.int p5), .val (.int p6), .val (.int p3), .val (.int p2), .val (.ref r82), .val (.ref r87), .val (.ref b94), .val (.ref b115), .val (.int (own_f9 p1 p3 p2 p2)), .val (.int (own_f9 p3 p1 p2 p2)), .val (.long (own_f10 p1 p2)), .second, .val (.long (own_f10 p3 p2)), .second] [(.int (1 : Int32)), (.int (own_f9 p3 p1 p2 p2))])) _
                refine XS.icmpYes X150.here hx rfl (pc0 := 150) (pc' := 157) rfl (hb hby at_150) rfl (feq hc19).2 (by decide) (by decide) ?_
                show Steps p.tables e below (T150.setTop (mkF m 157 #[.val (.int p1), .val (.int p2), .val (.int p3), .val (.int p4), .val (.int p5), .val (.int p6), .val (.int p3), .val (.int p2), .val (.ref r82), .val (.ref r87), .val (.ref b94), .val (.ref b115), .val (.int (own_f9 p1 p3 p2 p2)), .val (.int (own_f9 p3 p1 p2 p2)), .val (.long (own_f10 p1 p2)), .second, .val (.long (own_f10 p3 p2)), .second] [])) _
                refine XS.iconst X150.here hx rfl (hb hby at_157) ?_
                show Steps p.tables e below (T150.setTop (mkF m 158 #[.val (.int p1), .val (.int p2), .val (.int p3), .val (.int p4), .val (.int p5), .val (.int p6), .val (.int p3), .val (.int p2), .val (.ref r82), .val (.ref r87), .val (.ref b94), .val (.ref b115), .val (.int (own_f9 p1 p3 p2 p2)), .val (.int (own_f9 p3 p1 p2 p2)), .val (.long (own_f10 p1 p2)), .second, .val (.long (own_f10 p3 p2)), .second] [(.int (0 : Int32))])) _
                exact retN X150 hx (t := .boolean) Bd.returns (by simp) (hb hby at_158) hr
              · show own_Q0 Z p1 p2 p3 p4 p5 p6 w_COMPACT_STRINGS h0 n0 _ T150.heap _
                rw [e150]
                exact ⟨(by rw [own_f0, if_pos hc1, if_neg hc2, if_neg hc12, if_pos hc17, if_pos hc18, if_neg hc19]), N151⟩
          ·
            have k160 : ∀ t, Steps p.tables e below (T150.setTop (mkF m 150 #[.val (.int p1), .val (.int p2), .val (.int p3), .val (.int p4), .val (.int p5), .val (.int p6), .val (.int p3), .val (.int p2), .val (.ref r82), .val (.ref r87), .val (.ref b94), .val (.ref b115), .val (.int (own_f9 p1 p3 p2 p2)), .val (.int (own_f9 p3 p1 p2 p2)), .val (.long (own_f10 p1 p2)), .second, .val (.long (own_f10 p3 p2)), .second] [(.int (0 : Int32)), (.int (own_f9 p3 p1 p2 p2))])) t → Steps p.tables e below (s₁.setTop (entryFrame m #[(.int p1), (.int p2), (.int p3), (.int p4), (.int p5), (.int p6)] maxLocals)) t := by
              intro t kt
              refine k158 t ?_
              show Steps p.tables e below (T150.setTop (mkF m 142 #[.val (.int p1), .val (.int p2), .val (.int p3), .val (.int p4), .val (.int p5), .val (.int p6), .val (.int p3), .val (.int p2), .val (.ref r82), .val (.ref r87), .val (.ref b94), .val (.ref b115), .val (.int (own_f9 p1 p3 p2 p2)), .val (.int (own_f9 p3 p1 p2 p2)), .val (.long (own_f10 p1 p2)), .second, .val (.long (own_f10 p3 p2)), .second] [(.int (lcmpW (own_f10 p3 p2) (own_f10 p1 p2))), (.int (own_f9 p3 p1 p2 p2))])) _
              refine XS.ifYes X150.here hx rfl (pc0 := 142) (pc' := 149) rfl (hb hby at_142) rfl ((if0 _ _).trans (flt hc18).2.1) (by decide) (by decide) ?_
              show Steps p.tables e below (T150.setTop (mkF m 149 #[.val (.int p1), .val (.int p2), .val (.int p3), .val (.int p4), .val (.int p5), .val (.int p6), .val (.int p3), .val (.int p2), .val (.ref r82), .val (.ref r87), .val (.ref b94), .val (.ref b115), .val (.int (own_f9 p1 p3 p2 p2)), .val (.int (own_f9 p3 p1 p2 p2)), .val (.long (own_f10 p1 p2)), .second, .val (.long (own_f10 p3 p2)), .second] [(.int (own_f9 p3 p1 p2 p2))])) _
              refine XS.iconst X150.here hx rfl (hb hby at_149) ?_
              exact kt
            by_cases hc20 : (own_f9 p3 p1 p2 p2) = (0 : Int32)
            ·
              obtain ⟨fs, hr, hrun, hended, hE⟩ := Stand.leaveW (s := s) (vm₁ := T127.vm) X150 hS127 (by rw [e150]; exact (Nat.le_refl _)) (hlocks := hlk) (v := some (.int (1 : Int32))) (fun h => by rw [Bd.returns] at h; cases h)
              refine ⟨_, _, k160 _ ?_, hrun, hended, _, _, rfl, ?_, hE.1, hE.2.1, hE.2.2.1, hE.2.2.2.mono (by decide) (by decide)⟩
              · show Steps p.tables e below (T150.setTop (mkF m 150 #[.val (.int p1), .val (.int p2), .val (.int p3), .val (.int p4), .val (.int p5), .val (.int p6), .val (.int p3), .val (.int p2), .val (.ref r82), .val (.ref r87), .val (.ref b94), .val (.ref b115), .val (.int (own_f9 p1 p3 p2 p2)), .val (.int (own_f9 p3 p1 p2 p2)), .val (.long (own_f10 p1 p2)), .second, .val (.long (own_f10 p3 p2)), .second] [(.int (0 : Int32)), (.int (own_f9 p3 p1 p2 p2))])) _
                refine XS.icmpNo X150.here hx rfl (hb hby at_150) rfl (teq hc20).2 ?_
                show Steps p.tables e below (T150.setTop (mkF m 153 #[.val (.int p1), .val (.int p2), .val (.int p3), .val (.int p4), .val (.int p5), .val (.int p6), .val (.int p3), .val (.int p2), .val (.ref r82), .val (.ref r87), .val (.ref b94), .val (.ref b115), .val (.int (own_f9 p1 p3 p2 p2)), .val (.int (own_f9 p3 p1 p2 p2)), .val (.long (own_f10 p1 p2)), .second, .val (.long (own_f10 p3 p2)), .second] [])) _
                refine XS.iconst X150.here hx rfl (hb hby at_153) ?_
                show Steps p.tables e below (T150.setTop (mkF m 154 #[.val (.int p1), .val (.int p2), .val (.int p3), .val (.int p4), .val (.int p5), .val (.int p6), .val (.int p3), .val (.int p2), .val (.ref r82), .val (.ref r87), .val (.ref b94), .val (.ref b115), .val (.int (own_f9 p1 p3 p2 p2)), .val (.int (own_f9 p3 p1 p2 p2)), .val (.long (own_f10 p1 p2)), .second, .val (.long (own_f10 p3 p2)), .second] [(.int (1 : Int32))])) _
                refine XS.goto X150.here hx rfl (pc0 := 154) (pc' := 158) rfl (hb hby at_154) (by decide) (by decide) ?_
                show Steps p.tables e below (T150.setTop (mkF m 158 #[.val (.int p1), .val (.int p2), .val (.int p3), .val (.int p4), .val (.int p5), .val (.int p6), .val (.int p3), .val (.int p2), .val (.ref r82), .val (.ref r87), .val (.ref b94), .val (.ref b115), .val (.int (own_f9 p1 p3 p2 p2)), .val (.int (own_f9 p3 p1 p2 p2)), .val (.long (own_f10 p1 p2)), .second, .val (.long (own_f10 p3 p2)), .second] [(.int (1 : Int32))])) _
                exact retN X150 hx (t := .boolean) Bd.returns (by simp) (hb hby at_158) hr
              · show own_Q0 Z p1 p2 p3 p4 p5 p6 w_COMPACT_STRINGS h0 n0 _ T150.heap _
                rw [e150]
                exact ⟨(by rw [own_f0, if_pos hc1, if_neg hc2, if_neg hc12, if_pos hc17, if_neg hc18, if_pos hc20]), N151⟩
            ·
              obtain ⟨fs, hr, hrun, hended, hE⟩ := Stand.leaveW (s := s) (vm₁ := T127.vm) X150 hS127 (by rw [e150]; exact (Nat.le_refl _)) (hlocks := hlk) (v := some (.int (0 : Int32))) (fun h => by rw [Bd.returns] at h; cases h)
              refine ⟨_, _, k160 _ ?_, hrun, hended, _, _, rfl, ?_, hE.1, hE.2.1, hE.2.2.1, hE.2.2.2.mono (by decide) (by decide)⟩
              · show Steps p.tables e below (T150.setTop (mkF m 150 #[.val (.int p1), .val (.int p2), .val (.int p3), .val (.int p4), .val (.int p5), .val (.int p6), .val (.int p3), .val (.int p2), .val (.ref r82), .val (.ref r87), .val (.ref b94), .val (.ref b115), .val (.int (own_f9 p1 p3 p2 p2)), .val (.int (own_f9 p3 p1 p2 p2)), .val (.long (own_f10 p1 p2)), .second, .val (.long (own_f10 p3 p2)), .second] [(.int (0 : Int32)), (.int (own_f9 p3 p1 p2 p2))])) _
                refine XS.icmpYes X150.here hx rfl (pc0 := 150) (pc' := 157) rfl (hb hby at_150) rfl (feq hc20).2 (by decide) (by decide) ?_
                show Steps p.tables e below (T150.setTop (mkF m 157 #[.val (.int p1), .val (.int p2), .val (.int p3), .val (.int p4), .val (.int p5), .val (.int p6), .val (.int p3), .val (.int p2), .val (.ref r82), .val (.ref r87), .val (.ref b94), .val (.ref b115), .val (.int (own_f9 p1 p3 p2 p2)), .val (.int (own_f9 p3 p1 p2 p2)), .val (.long (own_f10 p1 p2)), .second, .val (.long (own_f10 p3 p2)), .second] [])) _
                refine XS.iconst X150.here hx rfl (hb hby at_157) ?_
                show Steps p.tables e below (T150.setTop (mkF m 158 #[.val (.int p1), .val (.int p2), .val (.int p3), .val (.int p4), .val (.int p5), .val (.int p6), .val (.int p3), .val (.int p2), .val (.ref r82), .val (.ref r87), .val (.ref b94), .val (.ref b115), .val (.int (own_f9 p1 p3 p2 p2)), .val (.int (own_f9 p3 p1 p2 p2)), .val (.long (own_f10 p1 p2)), .second, .val (.long (own_f10 p3 p2)), .second] [(.int (0 : Int32))])) _
                exact retN X150 hx (t := .boolean) Bd.returns (by simp) (hb hby at_158) hr
              · show own_Q0 Z p1 p2 p3 p4 p5 p6 w_COMPACT_STRINGS h0 n0 _ T150.heap _
                rw [e150]
                exact ⟨(by rw [own_f0, if_pos hc1, if_neg hc2, if_neg hc12, if_pos hc17, if_neg hc18, if_neg hc20]), N151⟩
        ·
          obtain ⟨fs, hr, hrun, hended, hE⟩ := Stand.leaveW (s := s) (vm₁ := T127.vm) X150 hS127 (by rw [e150]; exact (Nat.le_refl _)) (hlocks := hlk) (v := some (.int (0 : Int32))) (fun h => by rw [Bd.returns] at h; cases h)
          refine ⟨_, _, k157 _ ?_, hrun, hended, _, _, rfl, ?_, hE.1, hE.2.1, hE.2.2.1, hE.2.2.2.mono (by decide) (by decide)⟩
          · show Steps p.tables e below (T150.setTop (mkF m 132 #[.val (.int p1), .val (.int p2), .val (.int p3), .val (.int p4), .val (.int p5), .val (.int p6), .val (.int p3), .val (.int p2), .val (.ref r82), .val (.ref r87), .val (.ref b94), .val (.ref b115), .val (.int (own_f9 p1 p3 p2 p2)), .val (.int (own_f9 p3 p1 p2 p2)), .val (.long (own_f10 p1 p2)), .second, .val (.long (own_f10 p3 p2)), .second] [(.int (0 : Int32)), (.int (own_f9 p1 p3 p2 p2))])) _
            refine XS.icmpYes X150.here hx rfl (pc0 := 132) (pc' := 157) rfl (hb hby at_132) rfl (feq hc17).2 (by decide) (by decide) ?_
            show Steps p.tables e below (T150.setTop (mkF m 157 #[.val (.int p1), .val (.int p2), .val (.int p3), .val (.int p4), .val (.int p5), .val (.int p6), .val (.int p3), .val (.int p2), .val (.ref r82), .val (.ref r87), .val (.ref b94), .val (.ref b115), .val (.int (own_f9 p1 p3 p2 p2)), .val (.int (own_f9 p3 p1 p2 p2)), .val (.long (own_f10 p1 p2)), .second, .val (.long (own_f10 p3 p2)), .second] [])) _
            refine XS.iconst X150.here hx rfl (hb hby at_157) ?_
            show Steps p.tables e below (T150.setTop (mkF m 158 #[.val (.int p1), .val (.int p2), .val (.int p3), .val (.int p4), .val (.int p5), .val (.int p6), .val (.int p3), .val (.int p2), .val (.ref r82), .val (.ref r87), .val (.ref b94), .val (.ref b115), .val (.int (own_f9 p1 p3 p2 p2)), .val (.int (own_f9 p3 p1 p2 p2)), .val (.long (own_f10 p1 p2)), .second, .val (.long (own_f10 p3 p2)), .second] [(.int (0 : Int32))])) _
            exact retN X150 hx (t := .boolean) Bd.returns (by simp) (hb hby at_158) hr
          · show own_Q0 Z p1 p2 p3 p4 p5 p6 w_COMPACT_STRINGS h0 n0 _ T150.heap _
            rw [e150]
            exact ⟨(by rw [own_f0, if_pos hc1, if_neg hc2, if_neg hc12, if_neg hc17]), N151⟩
  ·
    have k161 : ∀ t, Steps p.tables e below (s₁.setTop (mkF m 18 #[.val (.int p1), .val (.int p2), .val (.int p3), .val (.int p4), .val (.int p5), .val (.int p6), .val (.int p1), .unset, .unset, .unset, .unset, .unset, .unset, .unset, .unset, .unset, .unset, .unset] [(.int (p5 &&& (2 : Int32)))])) t → Steps p.tables e below (s₁.setTop (entryFrame m #[(.int p1), (.int p2), (.int p3), (.int p4), (.int p5), (.int p6)] maxLocals)) t := by
      intro t kt
      refine k1 t ?_
      show Steps p.tables e below (s₁.setTop (mkF m 4 #[.val (.int p1), .val (.int p2), .val (.int p3), .val (.int p4), .val (.int p5), .val (.int p6), .unset, .unset, .unset, .unset, .unset, .unset, .unset, .unset, .unset, .unset, .unset, .unset] [(.int (p5 &&& (1 : Int32)))])) _
      refine XS.ifNo X0.here hx rfl (hb hby at_4) rfl ((if0 _ _).trans (feq hc1).1) ?_
      show Steps p.tables e below (s₁.setTop (mkF m 7 #[.val (.int p1), .val (.int p2), .val (.int p3), .val (.int p4), .val (.int p5), .val (.int p6), .unset, .unset, .unset, .unset, .unset, .unset, .unset, .unset, .unset, .unset, .unset, .unset] [])) _
      refine XS.iloadN X0.here hx rfl (hb hby at_7) rfl ?_
      show Steps p.tables e below (s₁.setTop (mkF m 8 #[.val (.int p1), .val (.int p2), .val (.int p3), .val (.int p4), .val (.int p5), .val (.int p6), .unset, .unset, .unset, .unset, .unset, .unset, .unset, .unset, .unset, .unset, .unset, .unset] [(.int p1)])) _
      refine XS.goto X0.here hx rfl (pc0 := 8) (pc' := 12) rfl (hb hby at_8) (by decide) (by decide) ?_
      show Steps p.tables e below (s₁.setTop (mkF m 12 #[.val (.int p1), .val (.int p2), .val (.int p3), .val (.int p4), .val (.int p5), .val (.int p6), .unset, .unset, .unset, .unset, .unset, .unset, .unset, .unset, .unset, .unset, .unset, .unset] [(.int p1)])) _
      refine XS.istore X0.here hx rfl (hb hby at_12) rfl (l' := #[.val (.int p1), .val (.int p2), .val (.int p3), .val (.int p4), .val (.int p5), .val (.int p6), .val (.int p1), .unset, .unset, .unset, .unset, .unset, .unset, .unset, .unset, .unset, .unset, .unset]) rfl ?_
      show Steps p.tables e below (s₁.setTop (mkF m 14 #[.val (.int p1), .val (.int p2), .val (.int p3), .val (.int p4), .val (.int p5), .val (.int p6), .val (.int p1), .unset, .unset, .unset, .unset, .unset, .unset, .unset, .unset, .unset, .unset, .unset] [])) _
      refine XS.iload X0.here hx rfl (hb hby at_14) rfl ?_
      show Steps p.tables e below (s₁.setTop (mkF m 16 #[.val (.int p1), .val (.int p2), .val (.int p3), .val (.int p4), .val (.int p5), .val (.int p6), .val (.int p1), .unset, .unset, .unset, .unset, .unset, .unset, .unset, .unset, .unset, .unset, .unset] [(.int p5)])) _
      refine XS.iconst X0.here hx rfl (hb hby at_16) ?_
      show Steps p.tables e below (s₁.setTop (mkF m 17 #[.val (.int p1), .val (.int p2), .val (.int p3), .val (.int p4), .val (.int p5), .val (.int p6), .val (.int p1), .unset, .unset, .unset, .unset, .unset, .unset, .unset, .unset, .unset, .unset, .unset] [(.int (2 : Int32)), (.int p5)])) _
      refine XS.iand X0.here hx rfl (hb hby at_17) rfl ?_
      exact kt
    by_cases hc21 : (p5 &&& (2 : Int32)) = (0 : Int32)
    ·
      obtain ⟨v162, _, ⟨T162, L162, k162, n162⟩, -, X162, ⟨Lc162, hQ162, l162, y162, z162⟩, st162⟩ := Jvm.LawKit.callS X0 hx (y := (⟨"java/lang/String", "valueOf", "(C)Ljava/lang/String;"⟩ : MethodName)) hown (mvT hZ (hw _ (List.mem_of_getElem? (i := 0) rfl))) (mvT hZ (hw _ (List.mem_of_getElem? (i := 1) rfl))) (mvT hZ (hw _ (List.mem_of_getElem? (i := 2) rfl))) (mvT hZ (hw _ (List.mem_of_getElem? (i := 3) rfl))) (by decide) (backOf (W := 0) (own_rm1 l Z a0 hw [] ((p6 &&& (255 : Int32)).toUInt32.toUInt16.toUInt32.toInt32) w_COMPACT_STRINGS h0 n0 Z0 hcs (own_lt255 _) S_COMPACT_STRINGS) hZ (hw _ (List.mem_of_getElem? (i := 3) rfl)) (hw _ (List.mem_of_getElem? (i := 2) rfl)) (by decide) (by decide)) (g := (mkF m 35 #[.val (.int p1), .val (.int p2), .val (.int p3), .val (.int p4), .val (.int p5), .val (.int p6), .val (.int p1), .val (.int p4), .unset, .unset, .unset, .unset, .unset, .unset, .unset, .unset, .unset, .unset] [(.int ((p6 &&& (255 : Int32)).toUInt32.toUInt16.toUInt32.toInt32))])) rfl (by rw [hml]; rfl) (argsL := [(.int ((p6 &&& (255 : Int32)).toUInt32.toUInt16.toUInt32.toInt32))]) (rest := []) (lenOf own_pd102 rfl) rfl (by show 2 * 0 + _ ≤ _; exact Nat.le_of_eq rfl) (hb hby at_35) (fun _ _ => ⟨rfl, e0, (by decide : 0 + 2 ≤ _), (by decide : 0 + 5 ≤ _)⟩)
      dsimp only [Pt.U, Pt.locs, Pt.cells, Pt.slots] at X162 l162 y162 z162 st162 hQ162
      subst l162 y162 z162
      obtain ⟨r162, rfl, N162q, K162, hr162, Q162_0, Q162_1⟩ := hQ162
      have g_r162 : n0 ≤ r162 := Nat.le_trans Z0 hr162
      have f163 := own_staKeep S_COMPACT_STRINGS K162
      have Z164 := Nat.le_trans Z0 K162.1
      have hk165 := Nat.le_trans hk0 K162.1
      have N166 := Fr.app N0 N162q
      obtain ⟨v167, _, ⟨T167, L167, k167, n167⟩, -, X167, ⟨Lc167, hQ167, l167, y167, z167⟩, st167⟩ := Jvm.LawKit.callS X162 hx (y := (⟨"java/lang/String", "valueOf", "(C)Ljava/lang/String;"⟩ : MethodName)) hown (mvT hZ (hw _ (List.mem_of_getElem? (i := 0) rfl))) (mvT hZ (hw _ (List.mem_of_getElem? (i := 1) rfl))) (mvT hZ (hw _ (List.mem_of_getElem? (i := 2) rfl))) (mvT hZ (hw _ (List.mem_of_getElem? (i := 3) rfl))) (by decide) (backOf (W := 0) (own_rm1 l Z a0 hw [] ((((p6.toUInt32 >>> ((8 : Int32) &&& 31).toUInt32).toInt32) &&& (255 : Int32)).toUInt32.toUInt16.toUInt32.toInt32) w_COMPACT_STRINGS T162.heap n0 Z164 hcs (own_lt255 _) f163) hZ (hw _ (List.mem_of_getElem? (i := 3) rfl)) (hw _ (List.mem_of_getElem? (i := 2) rfl)) (by decide) (by decide)) (g := (mkF m 50 #[.val (.int p1), .val (.int p2), .val (.int p3), .val (.int p4), .val (.int p5), .val (.int p6), .val (.int p1), .val (.int p4), .val (.ref r162), .unset, .unset, .unset, .unset, .unset, .unset, .unset, .unset, .unset] [(.int ((((p6.toUInt32 >>> ((8 : Int32) &&& 31).toUInt32).toInt32) &&& (255 : Int32)).toUInt32.toUInt16.toUInt32.toInt32))])) rfl (by rw [hml]; rfl) (argsL := [(.int ((((p6.toUInt32 >>> ((8 : Int32) &&& 31).toUInt32).toInt32) &&& (255 : Int32)).toUInt32.toUInt16.toUInt32.toInt32))]) (rest := []) (lenOf own_pd102 rfl) rfl (by show 2 * 0 + _ ≤ _; exact Nat.le_of_eq rfl) (hb hby at_50) (fun _ _ => ⟨rfl, rfl, (by decide : 2 + 2 ≤ _), (by decide : 5 + 5 ≤ _)⟩)
      dsimp only [Pt.U, Pt.locs, Pt.cells, Pt.slots] at X167 l167 y167 z167 st167 hQ167
      subst l167 y167 z167
      obtain ⟨r167, rfl, N167q, K167, hr167, Q167_0, Q167_1⟩ := hQ167
      have ne_r162_r167 : r162 ≠ r167 := Nat.ne_of_lt (Nat.lt_of_lt_of_le Q162_0.lt hr167)
      have g_r167 : n0 ≤ r167 := Nat.le_trans Z164 hr167
      have f168 := own_staKeep f163 K167
      have f169 := Q162_0.keep K167
      have f170 := Q162_1.keep K167 nin0
      have Z171 := Nat.le_trans Z164 K167.1
      have hk172 := Nat.le_trans hk165 K167.1
      have N173 := Fr.app N166 N167q
      obtain ⟨T174, h174, X174, e174, E174, A174, D174, -, st174⟩ := newO X167 hx hZ hown (hw _ (List.mem_of_getElem? (i := 26) rfl)) (hw _ (List.mem_of_getElem? (i := 27) rfl)) (hw _ (List.mem_of_getElem? (i := 28) rfl)) rfl (g := (mkF m 55 #[.val (.int p1), .val (.int p2), .val (.int p3), .val (.int p4), .val (.int p5), .val (.int p6), .val (.int p1), .val (.int p4), .val (.ref r162), .val (.ref r167), .unset, .unset, .unset, .unset, .unset, .unset, .unset, .unset] [])) rfl (hb hby at_55) (by decide) (by decide)
      obtain ⟨b174, g174⟩ : ∃ z, z = T167.heap.size := ⟨_, rfl⟩
      rw [← g174] at A174 D174 st174
      have ne_r162_b174 : r162 ≠ b174 := Nat.ne_of_lt (Nat.lt_of_lt_of_le f169.lt (Nat.le_of_eq g174.symm))
      have ne_r167_b174 : r167 ≠ b174 := Nat.ne_of_lt (Nat.lt_of_lt_of_le Q167_0.lt (Nat.le_of_eq g174.symm))
      have g_b174 : n0 ≤ b174 := Nat.le_trans Z171 (Nat.le_of_eq g174.symm)
      have f175 := f168.ext E174
      have f176 := f169.ext E174
      have f177 := f170.ext E174
      have f178 := Q167_0.ext E174
      have f179 := Q167_1.ext E174
      have Z180 := Nat.le_trans Z171 E174.1
      have hk181 := Nat.le_trans hk172 E174.1
      have F_file_b174 : Fld Z h174 b174 "com/example/edgbaston/edgbaston/source/Location" "file" "Ljava/lang/String;" .null := D174 (Or.inr (hw _ (List.mem_of_getElem? (i := 46) rfl))) (ty := (.object "java/lang/String")) (by decide)
      have F_line_b174 : Fld Z h174 b174 "com/example/edgbaston/edgbaston/source/Location" "line" "I" (.int (0 : Int32)) := D174 (Or.inr (hw _ (List.mem_of_getElem? (i := 48) rfl))) (ty := .int) (by decide)
      have F_column_b174 : Fld Z h174 b174 "com/example/edgbaston/edgbaston/source/Location" "column" "I" (.int (0 : Int32)) := D174 (Or.inr (hw _ (List.mem_of_getElem? (i := 50) rfl))) (ty := .int) (by decide)
      obtain ⟨v182, _, ⟨T182, L182, k182, n182⟩, -, Y182, Si182, gr182, ⟨Lc182, hQ182, l182, y182, z182⟩, st182⟩ := X174.specialBackS hx (y := (⟨"com/example/edgbaston/edgbaston/source/Location", "<init>", "(Ljava/lang/String;II)V"⟩ : MethodName)) rfl hown (mvT hZ (hw _ (List.mem_of_getElem? (i := 29) rfl))) (mvT hZ (hw _ (List.mem_of_getElem? (i := 30) rfl))) (mvT hZ (hw _ (List.mem_of_getElem? (i := 31) rfl))) (by decide) (backOfS (W := 1) (own_rm6 l Z a0 hw [] b174 r162 p1 p2 .null (0 : Int32) (0 : Int32) h174 n0 Z180 A174 F_file_b174 g_b174 F_line_b174 F_column_b174) hZ (hw _ (List.mem_of_getElem? (i := 31) rfl)) (hw _ (List.mem_of_getElem? (i := 28) rfl)) (by decide) (by decide)) (g := (mkF m 63 #[.val (.int p1), .val (.int p2), .val (.int p3), .val (.int p4), .val (.int p5), .val (.int p6), .val (.int p1), .val (.int p4), .val (.ref r162), .val (.ref r167), .unset, .unset, .unset, .unset, .unset, .unset, .unset, .unset] [(.int p2), (.int p1), (.ref r162), (.ref b174), (.ref b174)])) rfl (by rw [hml]; rfl) (Steps.refl _) (a := b174) (argsL := [(.ref r162), (.int p1), (.int p2)]) (rest := [(.ref b174)]) (lenOf own_pd103 rfl) rfl (by show 2 * 0 + _ ≤ _; exact Nat.le_of_eq rfl) (hb hby at_63) (fun _ _ => ⟨rfl, e174, (by decide : 5 + 2 ≤ _), (by decide : 13 + 20 ≤ _)⟩)
      dsimp only [Pt.U, Pt.locs, Pt.cells, Pt.slots] at Y182 Si182 gr182 l182 y182 z182 st182 hQ182
      subst l182 y182 z182
      obtain ⟨X182, hS182, hZ182, hown182⟩ := rebS hS0 (by rw [e174]; exact hk181) Y182 Si182 gr182 hZ hown
      obtain ⟨rfl, N182q, K182, Q182_0, Q182_1, Q182_2, Q182_3⟩ := hQ182
      have f183 := own_staKeepE f175 K182 (allS ⟨_, A174⟩ all0)
      have f184 := f176.keep K182
      have f185 := f177.keep K182 (ninS ne_r162_b174 nin0)
      have f186 := f178.keep K182
      have f187 := f179.keep K182 (ninS ne_r167_b174 nin0)
      have f188 := A174.keep K182
      have Z192 := Nat.le_trans Z180 K182.1
      have hk193 := Nat.le_trans hk181 K182.1
      have N194 := Fr.app N173 N182q
      obtain ⟨T195, h195, X195, e195, E195, A195, D195, -, st195⟩ := newO X182 hx hZ182 hown182 (hw _ (List.mem_of_getElem? (i := 26) rfl)) (hw _ (List.mem_of_getElem? (i := 27) rfl)) (hw _ (List.mem_of_getElem? (i := 28) rfl)) rfl (g := (mkF m 68 #[.val (.int p1), .val (.int p2), .val (.int p3), .val (.int p4), .val (.int p5), .val (.int p6), .val (.int p1), .val (.int p4), .val (.ref r162), .val (.ref r167), .val (.ref b174), .unset, .unset, .unset, .unset, .unset, .unset, .unset] [])) rfl (hb hby at_68) (by decide) (by decide)
      obtain ⟨b195, g195⟩ : ∃ z, z = T182.heap.size := ⟨_, rfl⟩
      rw [← g195] at A195 D195 st195
      have ne_r162_b195 : r162 ≠ b195 := Nat.ne_of_lt (Nat.lt_of_lt_of_le f184.lt (Nat.le_of_eq g195.symm))
      have ne_r167_b195 : r167 ≠ b195 := Nat.ne_of_lt (Nat.lt_of_lt_of_le f186.lt (Nat.le_of_eq g195.symm))
      have ne_b174_b195 : b174 ≠ b195 := Nat.ne_of_lt (Nat.lt_of_lt_of_le Q182_0.lt (Nat.le_of_eq g195.symm))
      have g_b195 : n0 ≤ b195 := Nat.le_trans Z192 (Nat.le_of_eq g195.symm)
      have f196 := f183.ext E195
      have f197 := f184.ext E195
      have f198 := f185.ext E195
      have f199 := f186.ext E195
      have f200 := f187.ext E195
      have f201 := Q182_0.ext E195
      have f202 := Q182_1.ext E195
      have f203 := Q182_2.ext E195
      have f204 := Q182_3.ext E195
      have Z205 := Nat.le_trans Z192 E195.1
      have hk206 := Nat.le_trans (Nat.le_refl _) E195.1
      have F_file_b195 : Fld Z h195 b195 "com/example/edgbaston/edgbaston/source/Location" "file" "Ljava/lang/String;" .null := D195 (Or.inr (hw _ (List.mem_of_getElem? (i := 46) rfl))) (ty := (.object "java/lang/String")) (by decide)
      have F_line_b195 : Fld Z h195 b195 "com/example/edgbaston/edgbaston/source/Location" "line" "I" (.int (0 : Int32)) := D195 (Or.inr (hw _ (List.mem_of_getElem? (i := 48) rfl))) (ty := .int) (by decide)
      have F_column_b195 : Fld Z h195 b195 "com/example/edgbaston/edgbaston/source/Location" "column" "I" (.int (0 : Int32)) := D195 (Or.inr (hw _ (List.mem_of_getElem? (i := 50) rfl))) (ty := .int) (by decide)
      obtain ⟨v207, _, ⟨T207, L207, k207, n207⟩, -, Y207, Si207, gr207, ⟨Lc207, hQ207, l207, y207, z207⟩, st207⟩ := X195.specialBackS hx (y := (⟨"com/example/edgbaston/edgbaston/source/Location", "<init>", "(Ljava/lang/String;II)V"⟩ : MethodName)) rfl hown182 (mvT hZ182 (hw _ (List.mem_of_getElem? (i := 29) rfl))) (mvT hZ182 (hw _ (List.mem_of_getElem? (i := 30) rfl))) (mvT hZ182 (hw _ (List.mem_of_getElem? (i := 31) rfl))) (by decide) (backOfS (W := 1) (own_rm6 l Z a0 hw [] b195 r167 p1 p4 .null (0 : Int32) (0 : Int32) h195 n0 Z205 A195 F_file_b195 g_b195 F_line_b195 F_column_b195) hZ182 (hw _ (List.mem_of_getElem? (i := 31) rfl)) (hw _ (List.mem_of_getElem? (i := 28) rfl)) (by decide) (by decide)) (g := (mkF m 78 #[.val (.int p1), .val (.int p2), .val (.int p3), .val (.int p4), .val (.int p5), .val (.int p6), .val (.int p1), .val (.int p4), .val (.ref r162), .val (.ref r167), .val (.ref b174), .unset, .unset, .unset, .unset, .unset, .unset, .unset] [(.int p4), (.int p1), (.ref r167), (.ref b195), (.ref b195)])) rfl (by rw [hml]; rfl) (Steps.refl _) (a := b195) (argsL := [(.ref r167), (.int p1), (.int p4)]) (rest := [(.ref b195)]) (lenOf own_pd103 rfl) rfl (by show 2 * 0 + _ ≤ _; exact Nat.le_of_eq rfl) (hb hby at_78) (fun _ _ => ⟨rfl, e195, (by decide : 8 + 2 ≤ _), (by decide : 36 + 20 ≤ _)⟩)
      dsimp only [Pt.U, Pt.locs, Pt.cells, Pt.slots] at Y207 Si207 gr207 l207 y207 z207 st207 hQ207
      subst l207 y207 z207
      obtain ⟨X207, hS207, hZ207, hown207⟩ := rebS hS182 (by rw [e195]; exact hk206) Y207 Si207 gr207 hZ182 hown182
      obtain ⟨rfl, N207q, K207, Q207_0, Q207_1, Q207_2, Q207_3⟩ := hQ207
      have f208 := own_staKeepE f196 K207 (allS ⟨_, A195⟩ all0)
      have f209 := f197.keep K207
      have f210 := f198.keep K207 (ninS ne_r162_b195 nin0)
      have f211 := f199.keep K207
      have f212 := f200.keep K207 (ninS ne_r167_b195 nin0)
      have f213 := f201.keep K207
      have f214 := f202.keep K207 (ninS ne_b174_b195 nin0)
      have f215 := f203.keep K207 (ninS ne_b174_b195 nin0)
      have f216 := f204.keep K207 (ninS ne_b174_b195 nin0)
      have f217 := A195.keep K207
      have Z221 := Nat.le_trans Z205 K207.1
      have hk222 := Nat.le_trans hk206 K207.1
      have N223 := Fr.app N194 N207q
      obtain ⟨cq224, kq224, q224a, q224b, q224c⟩ := isOf hZ207 rfl f213
      obtain ⟨v224, _, ⟨T224, L224, k224, n224⟩, -, X224, ⟨Lc224, hQ224, l224, y224, z224⟩, st224⟩ := X207.virtualBack hx (y := (⟨"com/example/edgbaston/edgbaston/source/Location", "isBefore", "(Lcom/example/edgbaston/edgbaston/source/Location;)Z"⟩ : MethodName)) (z := (⟨"com/example/edgbaston/edgbaston/source/Location", "isBefore", "(Lcom/example/edgbaston/edgbaston/source/Location;)Z"⟩ : MethodName)) hown207 (mvT hZ207 (hw _ (List.mem_of_getElem? (i := 51) rfl))) (mvT hZ207 (hw _ (List.mem_of_getElem? (i := 52) rfl))) (notFace_of_selects (args := #[]) (mvT hZ207 (hw _ (List.mem_of_getElem? (i := 54) rfl)))) (mvT hZ207 (hw _ (List.mem_of_getElem? (i := 54) rfl))) (mvT hZ207 (hw _ (List.mem_of_getElem? (i := 53) rfl))) (by decide) (backOf (W := 0) (own_rm9 l Z a0 hw [] b174 b195 p1 p1 p2 p4 T207.heap n0 Z221 f215 Q207_2 f216 Q207_3) hZ207 (hw _ (List.mem_of_getElem? (i := 55) rfl)) (hw _ (List.mem_of_getElem? (i := 28) rfl)) (by decide) (by decide)) q224a q224c (g := (mkF m 87 #[.val (.int p1), .val (.int p2), .val (.int p3), .val (.int p4), .val (.int p5), .val (.int p6), .val (.int p1), .val (.int p4), .val (.ref r162), .val (.ref r167), .val (.ref b174), .val (.ref b195), .unset, .unset, .unset, .unset, .unset, .unset] [(.ref b195), (.ref b174)])) rfl (by rw [hml]; rfl) (Steps.refl _) (argsL := [(.ref b195)]) (rest := []) (lenOf own_pd104 rfl) rfl (by show 2 * 0 + _ ≤ _; exact Nat.le_of_eq rfl) (hb hby at_87) (fun _ _ => ⟨rfl, rfl, (by decide : 10 + 0 ≤ _), (by decide : 56 + 0 ≤ _)⟩)
      dsimp only [Pt.U, Pt.locs, Pt.cells, Pt.slots] at X224 l224 y224 z224 st224 hQ224
      subst l224 y224 z224
      obtain ⟨rfl, N224q, e224⟩ := hQ224
      have N225 := Fr.app N223 N224q
      obtain ⟨cq226, kq226, q226a, q226b, q226c⟩ := isOf hZ207 e224 Q207_0
      obtain ⟨v226, _, ⟨T226, L226, k226, n226⟩, -, X226, ⟨Lc226, hQ226, l226, y226, z226⟩, st226⟩ := X224.virtualBack hx (y := (⟨"com/example/edgbaston/edgbaston/source/Location", "isBefore", "(Lcom/example/edgbaston/edgbaston/source/Location;)Z"⟩ : MethodName)) (z := (⟨"com/example/edgbaston/edgbaston/source/Location", "isBefore", "(Lcom/example/edgbaston/edgbaston/source/Location;)Z"⟩ : MethodName)) hown207 (mvT hZ207 (hw _ (List.mem_of_getElem? (i := 51) rfl))) (mvT hZ207 (hw _ (List.mem_of_getElem? (i := 52) rfl))) (notFace_of_selects (args := #[]) (mvT hZ207 (hw _ (List.mem_of_getElem? (i := 54) rfl)))) (mvT hZ207 (hw _ (List.mem_of_getElem? (i := 54) rfl))) (mvT hZ207 (hw _ (List.mem_of_getElem? (i := 53) rfl))) (by decide) (backOf (W := 0) (own_rm9 l Z a0 hw [] b195 b174 p1 p1 p4 p2 T207.heap n0 Z221 Q207_2 f215 Q207_3 f216) hZ207 (hw _ (List.mem_of_getElem? (i := 55) rfl)) (hw _ (List.mem_of_getElem? (i := 28) rfl)) (by decide) (by decide)) q226a q226c (g := (mkF m 96 #[.val (.int p1), .val (.int p2), .val (.int p3), .val (.int p4), .val (.int p5), .val (.int p6), .val (.int p1), .val (.int p4), .val (.ref r162), .val (.ref r167), .val (.ref b174), .val (.ref b195), .val (.int (own_f9 p1 p1 p2 p4)), .unset, .unset, .unset, .unset, .unset] [(.ref b174), (.ref b195)])) rfl (by rw [hml]; rfl) (Steps.refl _) (argsL := [(.ref b174)]) (rest := []) (lenOf own_pd104 rfl) rfl (by show 2 * 0 + _ ≤ _; exact Nat.le_of_eq rfl) (hb hby at_96) (fun _ _ => ⟨rfl, e224, (by decide : 10 + 0 ≤ _), (by decide : 56 + 0 ≤ _)⟩)
      dsimp only [Pt.U, Pt.locs, Pt.cells, Pt.slots] at X226 l226 y226 z226 st226 hQ226
      subst l226 y226 z226
      obtain ⟨rfl, N226q, e226⟩ := hQ226
      have N227 := Fr.app N225 N226q
      obtain ⟨v228, _, ⟨T228, L228, k228, n228⟩, -, X228, ⟨Lc228, hQ228, l228, y228, z228⟩, st228⟩ := Jvm.LawKit.callS X226 hx (y := (⟨"com/example/edgbaston/edgbaston/source/LocationIsBeforePinLaw", "key", "(II)J"⟩ : MethodName)) hown207 (mvT hZ207 (hw _ (List.mem_of_getElem? (i := 56) rfl))) (mvT hZ207 (hw _ (List.mem_of_getElem? (i := 57) rfl))) (mvT hZ207 (hw _ (List.mem_of_getElem? (i := 58) rfl))) (mvT hZ207 (hw _ (List.mem_of_getElem? (i := 59) rfl))) (by decide) (backOf (W := 0) (own_rm10 l Z a0 hw [] p1 p2 T207.heap n0 Z221) hZ207 (hw _ (List.mem_of_getElem? (i := 59) rfl)) (hw _ (List.mem_of_getElem? (i := 58) rfl)) (by decide) (by decide)) (g := (mkF m 103 #[.val (.int p1), .val (.int p2), .val (.int p3), .val (.int p4), .val (.int p5), .val (.int p6), .val (.int p1), .val (.int p4), .val (.ref r162), .val (.ref r167), .val (.ref b174), .val (.ref b195), .val (.int (own_f9 p1 p1 p2 p4)), .val (.int (own_f9 p1 p1 p4 p2)), .unset, .unset, .unset, .unset] [(.int p2), (.int p1)])) rfl (by rw [hml]; rfl) (argsL := [(.int p1), (.int p2)]) (rest := []) (lenOf own_pd105 rfl) rfl (by show 2 * 0 + _ ≤ _; exact Nat.le_of_eq rfl) (hb hby at_103) (fun _ _ => ⟨rfl, e226, (by decide : 10 + 0 ≤ _), (by decide : 56 + 0 ≤ _)⟩)
      dsimp only [Pt.U, Pt.locs, Pt.cells, Pt.slots] at X228 l228 y228 z228 st228 hQ228
      subst l228 y228 z228
      obtain ⟨rfl, N228q, e228⟩ := hQ228
      have N229 := Fr.app N227 N228q
      obtain ⟨v230, _, ⟨T230, L230, k230, n230⟩, -, X230, ⟨Lc230, hQ230, l230, y230, z230⟩, st230⟩ := Jvm.LawKit.callS X228 hx (y := (⟨"com/example/edgbaston/edgbaston/source/LocationIsBeforePinLaw", "key", "(II)J"⟩ : MethodName)) hown207 (mvT hZ207 (hw _ (List.mem_of_getElem? (i := 56) rfl))) (mvT hZ207 (hw _ (List.mem_of_getElem? (i := 57) rfl))) (mvT hZ207 (hw _ (List.mem_of_getElem? (i := 58) rfl))) (mvT hZ207 (hw _ (List.mem_of_getElem? (i := 59) rfl))) (by decide) (backOf (W := 0) (own_rm10 l Z a0 hw [] p1 p4 T207.heap n0 Z221) hZ207 (hw _ (List.mem_of_getElem? (i := 59) rfl)) (hw _ (List.mem_of_getElem? (i := 58) rfl)) (by decide) (by decide)) (g := (mkF m 112 #[.val (.int p1), .val (.int p2), .val (.int p3), .val (.int p4), .val (.int p5), .val (.int p6), .val (.int p1), .val (.int p4), .val (.ref r162), .val (.ref r167), .val (.ref b174), .val (.ref b195), .val (.int (own_f9 p1 p1 p2 p4)), .val (.int (own_f9 p1 p1 p4 p2)), .val (.long (own_f10 p1 p2)), .second, .unset, .unset] [(.int p4), (.int p1)])) rfl (by rw [hml]; rfl) (argsL := [(.int p1), (.int p4)]) (rest := []) (lenOf own_pd105 rfl) rfl (by show 2 * 0 + _ ≤ _; exact Nat.le_of_eq rfl) (hb hby at_112) (fun _ _ => ⟨rfl, e228, (by decide : 10 + 0 ≤ _), (by decide : 56 + 0 ≤ _)⟩)
      dsimp only [Pt.U, Pt.locs, Pt.cells, Pt.slots] at X230 l230 y230 z230 st230 hQ230
      subst l230 y230 z230
      obtain ⟨rfl, N230q, e230⟩ := hQ230
      have N231 := Fr.app N229 N230q
      have k232 : ∀ t, Steps p.tables e below (T230.setTop (mkF m 124 #[.val (.int p1), .val (.int p2), .val (.int p3), .val (.int p4), .val (.int p5), .val (.int p6), .val (.int p1), .val (.int p4), .val (.ref r162), .val (.ref r167), .val (.ref b174), .val (.ref b195), .val (.int (own_f9 p1 p1 p2 p4)), .val (.int (own_f9 p1 p1 p4 p2)), .val (.long (own_f10 p1 p2)), .second, .val (.long (own_f10 p1 p4)), .second] [(.int (lcmpW (own_f10 p1 p2) (own_f10 p1 p4))), (.int (own_f9 p1 p1 p2 p4))])) t → Steps p.tables e below (s₁.setTop (entryFrame m #[(.int p1), (.int p2), (.int p3), (.int p4), (.int p5), (.int p6)] maxLocals)) t := by
        intro t kt
        refine k161 t ?_
        show Steps p.tables e below (s₁.setTop (mkF m 18 #[.val (.int p1), .val (.int p2), .val (.int p3), .val (.int p4), .val (.int p5), .val (.int p6), .val (.int p1), .unset, .unset, .unset, .unset, .unset, .unset, .unset, .unset, .unset, .unset, .unset] [(.int (p5 &&& (2 : Int32)))])) _
        refine XS.ifYes X0.here hx rfl (pc0 := 18) (pc' := 25) rfl (hb hby at_18) rfl ((if0 _ _).trans (teq hc21).1) (by decide) (by decide) ?_
        show Steps p.tables e below (s₁.setTop (mkF m 25 #[.val (.int p1), .val (.int p2), .val (.int p3), .val (.int p4), .val (.int p5), .val (.int p6), .val (.int p1), .unset, .unset, .unset, .unset, .unset, .unset, .unset, .unset, .unset, .unset, .unset] [])) _
        refine XS.iloadN X0.here hx rfl (hb hby at_25) rfl ?_
        show Steps p.tables e below (s₁.setTop (mkF m 26 #[.val (.int p1), .val (.int p2), .val (.int p3), .val (.int p4), .val (.int p5), .val (.int p6), .val (.int p1), .unset, .unset, .unset, .unset, .unset, .unset, .unset, .unset, .unset, .unset, .unset] [(.int p4)])) _
        refine XS.istore X0.here hx rfl (hb hby at_26) rfl (l' := #[.val (.int p1), .val (.int p2), .val (.int p3), .val (.int p4), .val (.int p5), .val (.int p6), .val (.int p1), .val (.int p4), .unset, .unset, .unset, .unset, .unset, .unset, .unset, .unset, .unset, .unset]) rfl ?_
        show Steps p.tables e below (s₁.setTop (mkF m 28 #[.val (.int p1), .val (.int p2), .val (.int p3), .val (.int p4), .val (.int p5), .val (.int p6), .val (.int p1), .val (.int p4), .unset, .unset, .unset, .unset, .unset, .unset, .unset, .unset, .unset, .unset] [])) _
        refine XS.iload X0.here hx rfl (hb hby at_28) rfl ?_
        show Steps p.tables e below (s₁.setTop (mkF m 30 #[.val (.int p1), .val (.int p2), .val (.int p3), .val (.int p4), .val (.int p5), .val (.int p6), .val (.int p1), .val (.int p4), .unset, .unset, .unset, .unset, .unset, .unset, .unset, .unset, .unset, .unset] [(.int p6)])) _
        refine XS.sipush X0.here hx rfl (hb hby at_30) ?_
        show Steps p.tables e below (s₁.setTop (mkF m 33 #[.val (.int p1), .val (.int p2), .val (.int p3), .val (.int p4), .val (.int p5), .val (.int p6), .val (.int p1), .val (.int p4), .unset, .unset, .unset, .unset, .unset, .unset, .unset, .unset, .unset, .unset] [(.int (255 : Int32)), (.int p6)])) _
        refine XS.iand X0.here hx rfl (hb hby at_33) rfl ?_
        show Steps p.tables e below (s₁.setTop (mkF m 34 #[.val (.int p1), .val (.int p2), .val (.int p3), .val (.int p4), .val (.int p5), .val (.int p6), .val (.int p1), .val (.int p4), .unset, .unset, .unset, .unset, .unset, .unset, .unset, .unset, .unset, .unset] [(.int (p6 &&& (255 : Int32)))])) _
        refine XS.i2c X0.here hx rfl (hb hby at_34) rfl ?_
        show Steps p.tables e below (s₁.setTop (mkF m 35 #[.val (.int p1), .val (.int p2), .val (.int p3), .val (.int p4), .val (.int p5), .val (.int p6), .val (.int p1), .val (.int p4), .unset, .unset, .unset, .unset, .unset, .unset, .unset, .unset, .unset, .unset] [(.int ((p6 &&& (255 : Int32)).toUInt32.toUInt16.toUInt32.toInt32))])) _
        refine st162 _ ?_
        show Steps p.tables e below (T162.setTop (mkF m 38 #[.val (.int p1), .val (.int p2), .val (.int p3), .val (.int p4), .val (.int p5), .val (.int p6), .val (.int p1), .val (.int p4), .unset, .unset, .unset, .unset, .unset, .unset, .unset, .unset, .unset, .unset] [(.ref r162)])) _
        refine XS.astore X162.here hx rfl (hb hby at_38) rfl rfl (l' := #[.val (.int p1), .val (.int p2), .val (.int p3), .val (.int p4), .val (.int p5), .val (.int p6), .val (.int p1), .val (.int p4), .val (.ref r162), .unset, .unset, .unset, .unset, .unset, .unset, .unset, .unset, .unset]) rfl ?_
        show Steps p.tables e below (T162.setTop (mkF m 40 #[.val (.int p1), .val (.int p2), .val (.int p3), .val (.int p4), .val (.int p5), .val (.int p6), .val (.int p1), .val (.int p4), .val (.ref r162), .unset, .unset, .unset, .unset, .unset, .unset, .unset, .unset, .unset] [])) _
        refine XS.iload X162.here hx rfl (hb hby at_40) rfl ?_
        show Steps p.tables e below (T162.setTop (mkF m 42 #[.val (.int p1), .val (.int p2), .val (.int p3), .val (.int p4), .val (.int p5), .val (.int p6), .val (.int p1), .val (.int p4), .val (.ref r162), .unset, .unset, .unset, .unset, .unset, .unset, .unset, .unset, .unset] [(.int p6)])) _
        refine XS.bipush X162.here hx rfl (hb hby at_42) ?_
        show Steps p.tables e below (T162.setTop (mkF m 44 #[.val (.int p1), .val (.int p2), .val (.int p3), .val (.int p4), .val (.int p5), .val (.int p6), .val (.int p1), .val (.int p4), .val (.ref r162), .unset, .unset, .unset, .unset, .unset, .unset, .unset, .unset, .unset] [(.int (8 : Int32)), (.int p6)])) _
        refine XS.iushr X162.here hx rfl (hb hby at_44) rfl ?_
        show Steps p.tables e below (T162.setTop (mkF m 45 #[.val (.int p1), .val (.int p2), .val (.int p3), .val (.int p4), .val (.int p5), .val (.int p6), .val (.int p1), .val (.int p4), .val (.ref r162), .unset, .unset, .unset, .unset, .unset, .unset, .unset, .unset, .unset] [(.int ((p6.toUInt32 >>> ((8 : Int32) &&& 31).toUInt32).toInt32))])) _
        refine XS.sipush X162.here hx rfl (hb hby at_45) ?_
        show Steps p.tables e below (T162.setTop (mkF m 48 #[.val (.int p1), .val (.int p2), .val (.int p3), .val (.int p4), .val (.int p5), .val (.int p6), .val (.int p1), .val (.int p4), .val (.ref r162), .unset, .unset, .unset, .unset, .unset, .unset, .unset, .unset, .unset] [(.int (255 : Int32)), (.int ((p6.toUInt32 >>> ((8 : Int32) &&& 31).toUInt32).toInt32))])) _
        refine XS.iand X162.here hx rfl (hb hby at_48) rfl ?_
        show Steps p.tables e below (T162.setTop (mkF m 49 #[.val (.int p1), .val (.int p2), .val (.int p3), .val (.int p4), .val (.int p5), .val (.int p6), .val (.int p1), .val (.int p4), .val (.ref r162), .unset, .unset, .unset, .unset, .unset, .unset, .unset, .unset, .unset] [(.int (((p6.toUInt32 >>> ((8 : Int32) &&& 31).toUInt32).toInt32) &&& (255 : Int32)))])) _
        refine XS.i2c X162.here hx rfl (hb hby at_49) rfl ?_
        show Steps p.tables e below (T162.setTop (mkF m 50 #[.val (.int p1), .val (.int p2), .val (.int p3), .val (.int p4), .val (.int p5), .val (.int p6), .val (.int p1), .val (.int p4), .val (.ref r162), .unset, .unset, .unset, .unset, .unset, .unset, .unset, .unset, .unset] [(.int ((((p6.toUInt32 >>> ((8 : Int32) &&& 31).toUInt32).toInt32) &&& (255 : Int32)).toUInt32.toUInt16.toUInt32.toInt32))])) _
        refine st167 _ ?_
        show Steps p.tables e below (T167.setTop (mkF m 53 #[.val (.int p1), .val (.int p2), .val (.int p3), .val (.int p4), .val (.int p5), .val (.int p6), .val (.int p1), .val (.int p4), .val (.ref r162), .unset, .unset, .unset, .unset, .unset, .unset, .unset, .unset, .unset] [(.ref r167)])) _
        refine XS.astore X167.here hx rfl (hb hby at_53) rfl rfl (l' := #[.val (.int p1), .val (.int p2), .val (.int p3), .val (.int p4), .val (.int p5), .val (.int p6), .val (.int p1), .val (.int p4), .val (.ref r162), .val (.ref r167), .unset, .unset, .unset, .unset, .unset, .unset, .unset, .unset]) rfl ?_
        show Steps p.tables e below (T167.setTop (mkF m 55 #[.val (.int p1), .val (.int p2), .val (.int p3), .val (.int p4), .val (.int p5), .val (.int p6), .val (.int p1), .val (.int p4), .val (.ref r162), .val (.ref r167), .unset, .unset, .unset, .unset, .unset, .unset, .unset, .unset] [])) _
        refine st174 _ ?_
        show Steps p.tables e below (T174.setTop (mkF m 58 #[.val (.int p1), .val (.int p2), .val (.int p3), .val (.int p4), .val (.int p5), .val (.int p6), .val (.int p1), .val (.int p4), .val (.ref r162), .val (.ref r167), .unset, .unset, .unset, .unset, .unset, .unset, .unset, .unset] [(.ref b174)])) _
        refine XS.dup X174.here hx rfl (hb hby at_58) rfl rfl ?_
        show Steps p.tables e below (T174.setTop (mkF m 59 #[.val (.int p1), .val (.int p2), .val (.int p3), .val (.int p4), .val (.int p5), .val (.int p6), .val (.int p1), .val (.int p4), .val (.ref r162), .val (.ref r167), .unset, .unset, .unset, .unset, .unset, .unset, .unset, .unset] [(.ref b174), (.ref b174)])) _
        refine XS.aload X174.here hx rfl (hb hby at_59) rfl rfl ?_
        show Steps p.tables e below (T174.setTop (mkF m 61 #[.val (.int p1), .val (.int p2), .val (.int p3), .val (.int p4), .val (.int p5), .val (.int p6), .val (.int p1), .val (.int p4), .val (.ref r162), .val (.ref r167), .unset, .unset, .unset, .unset, .unset, .unset, .unset, .unset] [(.ref r162), (.ref b174), (.ref b174)])) _
        refine XS.iloadN X174.here hx rfl (hb hby at_61) rfl ?_
        show Steps p.tables e below (T174.setTop (mkF m 62 #[.val (.int p1), .val (.int p2), .val (.int p3), .val (.int p4), .val (.int p5), .val (.int p6), .val (.int p1), .val (.int p4), .val (.ref r162), .val (.ref r167), .unset, .unset, .unset, .unset, .unset, .unset, .unset, .unset] [(.int p1), (.ref r162), (.ref b174), (.ref b174)])) _
        refine XS.iloadN X174.here hx rfl (hb hby at_62) rfl ?_
        show Steps p.tables e below (T174.setTop (mkF m 63 #[.val (.int p1), .val (.int p2), .val (.int p3), .val (.int p4), .val (.int p5), .val (.int p6), .val (.int p1), .val (.int p4), .val (.ref r162), .val (.ref r167), .unset, .unset, .unset, .unset, .unset, .unset, .unset, .unset] [(.int p2), (.int p1), (.ref r162), (.ref b174), (.ref b174)])) _
        refine st182.trans ?_
        show Steps p.tables e below (T182.setTop (mkF m 66 #[.val (.int p1), .val (.int p2), .val (.int p3), .val (.int p4), .val (.int p5), .val (.int p6), .val (.int p1), .val (.int p4), .val (.ref r162), .val (.ref r167), .unset, .unset, .unset, .unset, .unset, .unset, .unset, .unset] [(.ref b174)])) _
        refine XS.astore X182.here hx rfl (hb hby at_66) rfl rfl (l' := #[.val (.int p1), .val (.int p2), .val (.int p3), .val (.int p4), .val (.int p5), .val (.int p6), .val (.int p1), .val (.int p4), .val (.ref r162), .val (.ref r167), .val (.ref b174), .unset, .unset, .unset, .unset, .unset, .unset, .unset]) rfl ?_
        show Steps p.tables e below (T182.setTop (mkF m 68 #[.val (.int p1), .val (.int p2), .val (.int p3), .val (.int p4), .val (.int p5), .val (.int p6), .val (.int p1), .val (.int p4), .val (.ref r162), .val (.ref r167), .val (.ref b174), .unset, .unset, .unset, .unset, .unset, .unset, .unset] [])) _
        refine st195 _ ?_
        show Steps p.tables e below (T195.setTop (mkF m 71 #[.val (.int p1), .val (.int p2), .val (.int p3), .val (.int p4), .val (.int p5), .val (.int p6), .val (.int p1), .val (.int p4), .val (.ref r162), .val (.ref r167), .val (.ref b174), .unset, .unset, .unset, .unset, .unset, .unset, .unset] [(.ref b195)])) _
        refine XS.dup X195.here hx rfl (hb hby at_71) rfl rfl ?_
        show Steps p.tables e below (T195.setTop (mkF m 72 #[.val (.int p1), .val (.int p2), .val (.int p3), .val (.int p4), .val (.int p5), .val (.int p6), .val (.int p1), .val (.int p4), .val (.ref r162), .val (.ref r167), .val (.ref b174), .unset, .unset, .unset, .unset, .unset, .unset, .unset] [(.ref b195), (.ref b195)])) _
        refine XS.aload X195.here hx rfl (hb hby at_72) rfl rfl ?_
        show Steps p.tables e below (T195.setTop (mkF m 74 #[.val (.int p1), .val (.int p2), .val (.int p3), .val (.int p4), .val (.int p5), .val (.int p6), .val (.int p1), .val (.int p4), .val (.ref r162), .val (.ref r167), .val (.ref b174), .unset, .unset, .unset, .unset, .unset, .unset, .unset] [(.ref r167), (.ref b195), (.ref b195)])) _
        refine XS.iload X195.here hx rfl (hb hby at_74) rfl ?_
        show Steps p.tables e below (T195.setTop (mkF m 76 #[.val (.int p1), .val (.int p2), .val (.int p3), .val (.int p4), .val (.int p5), .val (.int p6), .val (.int p1), .val (.int p4), .val (.ref r162), .val (.ref r167), .val (.ref b174), .unset, .unset, .unset, .unset, .unset, .unset, .unset] [(.int p1), (.ref r167), (.ref b195), (.ref b195)])) _
        refine XS.iload X195.here hx rfl (hb hby at_76) rfl ?_
        show Steps p.tables e below (T195.setTop (mkF m 78 #[.val (.int p1), .val (.int p2), .val (.int p3), .val (.int p4), .val (.int p5), .val (.int p6), .val (.int p1), .val (.int p4), .val (.ref r162), .val (.ref r167), .val (.ref b174), .unset, .unset, .unset, .unset, .unset, .unset, .unset] [(.int p4), (.int p1), (.ref r167), (.ref b195), (.ref b195)])) _
        refine st207.trans ?_
        show Steps p.tables e below (T207.setTop (mkF m 81 #[.val (.int p1), .val (.int p2), .val (.int p3), .val (.int p4), .val (.int p5), .val (.int p6), .val (.int p1), .val (.int p4), .val (.ref r162), .val (.ref r167), .val (.ref b174), .unset, .unset, .unset, .unset, .unset, .unset, .unset] [(.ref b195)])) _
        refine XS.astore X207.here hx rfl (hb hby at_81) rfl rfl (l' := #[.val (.int p1), .val (.int p2), .val (.int p3), .val (.int p4), .val (.int p5), .val (.int p6), .val (.int p1), .val (.int p4), .val (.ref r162), .val (.ref r167), .val (.ref b174), .val (.ref b195), .unset, .unset, .unset, .unset, .unset, .unset]) rfl ?_
        show Steps p.tables e below (T207.setTop (mkF m 83 #[.val (.int p1), .val (.int p2), .val (.int p3), .val (.int p4), .val (.int p5), .val (.int p6), .val (.int p1), .val (.int p4), .val (.ref r162), .val (.ref r167), .val (.ref b174), .val (.ref b195), .unset, .unset, .unset, .unset, .unset, .unset] [])) _
        refine XS.aload X207.here hx rfl (hb hby at_83) rfl rfl ?_
        show Steps p.tables e below (T207.setTop (mkF m 85 #[.val (.int p1), .val (.int p2), .val (.int p3), .val (.int p4), .val (.int p5), .val (.int p6), .val (.int p1), .val (.int p4), .val (.ref r162), .val (.ref r167), .val (.ref b174), .val (.ref b195), .unset, .unset, .unset, .unset, .unset, .unset] [(.ref b174)])) _
        refine XS.aload X207.here hx rfl (hb hby at_85) rfl rfl ?_
        show Steps p.tables e below (T207.setTop (mkF m 87 #[.val (.int p1), .val (.int p2), .val (.int p3), .val (.int p4), .val (.int p5), .val (.int p6), .val (.int p1), .val (.int p4), .val (.ref r162), .val (.ref r167), .val (.ref b174), .val (.ref b195), .unset, .unset, .unset, .unset, .unset, .unset] [(.ref b195), (.ref b174)])) _
        refine st224.trans ?_
        show Steps p.tables e below (T224.setTop (mkF m 90 #[.val (.int p1), .val (.int p2), .val (.int p3), .val (.int p4), .val (.int p5), .val (.int p6), .val (.int p1), .val (.int p4), .val (.ref r162), .val (.ref r167), .val (.ref b174), .val (.ref b195), .unset, .unset, .unset, .unset, .unset, .unset] [(.int (own_f9 p1 p1 p2 p4))])) _
        refine XS.istore X224.here hx rfl (hb hby at_90) rfl (l' := #[.val (.int p1), .val (.int p2), .val (.int p3), .val (.int p4), .val (.int p5), .val (.int p6), .val (.int p1), .val (.int p4), .val (.ref r162), .val (.ref r167), .val (.ref b174), .val (.ref b195), .val (.int (own_f9 p1 p1 p2 p4)), .unset, .unset, .unset, .unset, .unset]) rfl ?_
        show Steps p.tables e below (T224.setTop (mkF m 92 #[.val (.int p1), .val (.int p2), .val (.int p3), .val (.int p4), .val (.int p5), .val (.int p6), .val (.int p1), .val (.int p4), .val (.ref r162), .val (.ref r167), .val (.ref b174), .val (.ref b195), .val (.int (own_f9 p1 p1 p2 p4)), .unset, .unset, .unset, .unset, .unset] [])) _
        refine XS.aload X224.here hx rfl (hb hby at_92) rfl rfl ?_
        show Steps p.tables e below (T224.setTop (mkF m 94 #[.val (.int p1), .val (.int p2), .val (.int p3), .val (.int p4), .val (.int p5), .val (.int p6), .val (.int p1), .val (.int p4), .val (.ref r162), .val (.ref r167), .val (.ref b174), .val (.ref b195), .val (.int (own_f9 p1 p1 p2 p4)), .unset, .unset, .unset, .unset, .unset] [(.ref b195)])) _
        refine XS.aload X224.here hx rfl (hb hby at_94) rfl rfl ?_
        show Steps p.tables e below (T224.setTop (mkF m 96 #[.val (.int p1), .val (.int p2), .val (.int p3), .val (.int p4), .val (.int p5), .val (.int p6), .val (.int p1), .val (.int p4), .val (.ref r162), .val (.ref r167), .val (.ref b174), .val (.ref b195), .val (.int (own_f9 p1 p1 p2 p4)), .unset, .unset, .unset, .unset, .unset] [(.ref b174), (.ref b195)])) _
        refine st226.trans ?_
        show Steps p.tables e below (T226.setTop (mkF m 99 #[.val (.int p1), .val (.int p2), .val (.int p3), .val (.int p4), .val (.int p5), .val (.int p6), .val (.int p1), .val (.int p4), .val (.ref r162), .val (.ref r167), .val (.ref b174), .val (.ref b195), .val (.int (own_f9 p1 p1 p2 p4)), .unset, .unset, .unset, .unset, .unset] [(.int (own_f9 p1 p1 p4 p2))])) _
        refine XS.istore X226.here hx rfl (hb hby at_99) rfl (l' := #[.val (.int p1), .val (.int p2), .val (.int p3), .val (.int p4), .val (.int p5), .val (.int p6), .val (.int p1), .val (.int p4), .val (.ref r162), .val (.ref r167), .val (.ref b174), .val (.ref b195), .val (.int (own_f9 p1 p1 p2 p4)), .val (.int (own_f9 p1 p1 p4 p2)), .unset, .unset, .unset, .unset]) rfl ?_
        show Steps p.tables e below (T226.setTop (mkF m 101 #[.val (.int p1), .val (.int p2), .val (.int p3), .val (.int p4), .val (.int p5), .val (.int p6), .val (.int p1), .val (.int p4), .val (.ref r162), .val (.ref r167), .val (.ref b174), .val (.ref b195), .val (.int (own_f9 p1 p1 p2 p4)), .val (.int (own_f9 p1 p1 p4 p2)), .unset, .unset, .unset, .unset] [])) _
        refine XS.iloadN X226.here hx rfl (hb hby at_101) rfl ?_
        show Steps p.tables e below (T226.setTop (mkF m 102 #[.val (.int p1), .val (.int p2), .val (.int p3), .val (.int p4), .val (.int p5), .val (.int p6), .val (.int p1), .val (.int p4), .val (.ref r162), .val (.ref r167), .val (.ref b174), .val (.ref b195), .val (.int (own_f9 p1 p1 p2 p4)), .val (.int (own_f9 p1 p1 p4 p2)), .unset, .unset, .unset, .unset] [(.int p1)])) _
        refine XS.iloadN X226.here hx rfl (hb hby at_102) rfl ?_
        show Steps p.tables e below (T226.setTop (mkF m 103 #[.val (.int p1), .val (.int p2), .val (.int p3), .val (.int p4), .val (.int p5), .val (.int p6), .val (.int p1), .val (.int p4), .val (.ref r162), .val (.ref r167), .val (.ref b174), .val (.ref b195), .val (.int (own_f9 p1 p1 p2 p4)), .val (.int (own_f9 p1 p1 p4 p2)), .unset, .unset, .unset, .unset] [(.int p2), (.int p1)])) _
        refine st228 _ ?_
        show Steps p.tables e below (T228.setTop (mkF m 106 #[.val (.int p1), .val (.int p2), .val (.int p3), .val (.int p4), .val (.int p5), .val (.int p6), .val (.int p1), .val (.int p4), .val (.ref r162), .val (.ref r167), .val (.ref b174), .val (.ref b195), .val (.int (own_f9 p1 p1 p2 p4)), .val (.int (own_f9 p1 p1 p4 p2)), .unset, .unset, .unset, .unset] [(.long (own_f10 p1 p2))])) _
        refine XS.lstore X228.here hx rfl (hb hby at_106) rfl (l' := #[.val (.int p1), .val (.int p2), .val (.int p3), .val (.int p4), .val (.int p5), .val (.int p6), .val (.int p1), .val (.int p4), .val (.ref r162), .val (.ref r167), .val (.ref b174), .val (.ref b195), .val (.int (own_f9 p1 p1 p2 p4)), .val (.int (own_f9 p1 p1 p4 p2)), .val (.long (own_f10 p1 p2)), .second, .unset, .unset]) rfl ?_
        show Steps p.tables e below (T228.setTop (mkF m 108 #[.val (.int p1), .val (.int p2), .val (.int p3), .val (.int p4), .val (.int p5), .val (.int p6), .val (.int p1), .val (.int p4), .val (.ref r162), .val (.ref r167), .val (.ref b174), .val (.ref b195), .val (.int (own_f9 p1 p1 p2 p4)), .val (.int (own_f9 p1 p1 p4 p2)), .val (.long (own_f10 p1 p2)), .second, .unset, .unset] [])) _
        refine XS.iload X228.here hx rfl (hb hby at_108) rfl ?_
        show Steps p.tables e below (T228.setTop (mkF m 110 #[.val (.int p1), .val (.int p2), .val (.int p3), .val (.int p4), .val (.int p5), .val (.int p6), .val (.int p1), .val (.int p4), .val (.ref r162), .val (.ref r167), .val (.ref b174), .val (.ref b195), .val (.int (own_f9 p1 p1 p2 p4)), .val (.int (own_f9 p1 p1 p4 p2)), .val (.long (own_f10 p1 p2)), .second, .unset, .unset] [(.int p1)])) _
        refine XS.iload X228.here hx rfl (hb hby at_110) rfl ?_
        show Steps p.tables e below (T228.setTop (mkF m 112 #[.val (.int p1), .val (.int p2), .val (.int p3), .val (.int p4), .val (.int p5), .val (.int p6), .val (.int p1), .val (.int p4), .val (.ref r162), .val (.ref r167), .val (.ref b174), .val (.ref b195), .val (.int (own_f9 p1 p1 p2 p4)), .val (.int (own_f9 p1 p1 p4 p2)), .val (.long (own_f10 p1 p2)), .second, .unset, .unset] [(.int p4), (.int p1)])) _
        refine st230 _ ?_
        show Steps p.tables e below (T230.setTop (mkF m 115 #[.val (.int p1), .val (.int p2), .val (.int p3), .val (.int p4), .val (.int p5), .val (.int p6), .val (.int p1), .val (.int p4), .val (.ref r162), .val (.ref r167), .val (.ref b174), .val (.ref b195), .val (.int (own_f9 p1 p1 p2 p4)), .val (.int (own_f9 p1 p1 p4 p2)), .val (.long (own_f10 p1 p2)), .second, .unset, .unset] [(.long (own_f10 p1 p4))])) _
        refine XS.lstore X230.here hx rfl (hb hby at_115) rfl (l' := #[.val (.int p1), .val (.int p2), .val (.int p3), .val (.int p4), .val (.int p5), .val (.int p6), .val (.int p1), .val (.int p4), .val (.ref r162), .val (.ref r167), .val (.ref b174), .val (.ref b195), .val (.int (own_f9 p1 p1 p2 p4)), .val (.int (own_f9 p1 p1 p4 p2)), .val (.long (own_f10 p1 p2)), .second, .val (.long (own_f10 p1 p4)), .second]) rfl ?_
        show Steps p.tables e below (T230.setTop (mkF m 117 #[.val (.int p1), .val (.int p2), .val (.int p3), .val (.int p4), .val (.int p5), .val (.int p6), .val (.int p1), .val (.int p4), .val (.ref r162), .val (.ref r167), .val (.ref b174), .val (.ref b195), .val (.int (own_f9 p1 p1 p2 p4)), .val (.int (own_f9 p1 p1 p4 p2)), .val (.long (own_f10 p1 p2)), .second, .val (.long (own_f10 p1 p4)), .second] [])) _
        refine XS.iload X230.here hx rfl (hb hby at_117) rfl ?_
        show Steps p.tables e below (T230.setTop (mkF m 119 #[.val (.int p1), .val (.int p2), .val (.int p3), .val (.int p4), .val (.int p5), .val (.int p6), .val (.int p1), .val (.int p4), .val (.ref r162), .val (.ref r167), .val (.ref b174), .val (.ref b195), .val (.int (own_f9 p1 p1 p2 p4)), .val (.int (own_f9 p1 p1 p4 p2)), .val (.long (own_f10 p1 p2)), .second, .val (.long (own_f10 p1 p4)), .second] [(.int (own_f9 p1 p1 p2 p4))])) _
        refine XS.lload X230.here hx rfl (hb hby at_119) rfl ?_
        show Steps p.tables e below (T230.setTop (mkF m 121 #[.val (.int p1), .val (.int p2), .val (.int p3), .val (.int p4), .val (.int p5), .val (.int p6), .val (.int p1), .val (.int p4), .val (.ref r162), .val (.ref r167), .val (.ref b174), .val (.ref b195), .val (.int (own_f9 p1 p1 p2 p4)), .val (.int (own_f9 p1 p1 p4 p2)), .val (.long (own_f10 p1 p2)), .second, .val (.long (own_f10 p1 p4)), .second] [(.long (own_f10 p1 p2)), (.int (own_f9 p1 p1 p2 p4))])) _
        refine XS.lload X230.here hx rfl (hb hby at_121) rfl ?_
        show Steps p.tables e below (T230.setTop (mkF m 123 #[.val (.int p1), .val (.int p2), .val (.int p3), .val (.int p4), .val (.int p5), .val (.int p6), .val (.int p1), .val (.int p4), .val (.ref r162), .val (.ref r167), .val (.ref b174), .val (.ref b195), .val (.int (own_f9 p1 p1 p2 p4)), .val (.int (own_f9 p1 p1 p4 p2)), .val (.long (own_f10 p1 p2)), .second, .val (.long (own_f10 p1 p4)), .second] [(.long (own_f10 p1 p4)), (.long (own_f10 p1 p2)), (.int (own_f9 p1 p1 p2 p4))])) _
        refine XS.lcmp X230.here hx rfl (hb hby at_123) rfl ?_
        exact kt
      by_cases hc22 : (lcmpW (own_f10 p1 p2) (own_f10 p1 p4)) < (0 : Int32)
      ·
        have k233 : ∀ t, Steps p.tables e below (T230.setTop (mkF m 132 #[.val (.int p1), .val (.int p2), .val (.int p3), .val (.int p4), .val (.int p5), .val (.int p6), .val (.int p1), .val (.int p4), .val (.ref r162), .val (.ref r167), .val (.ref b174), .val (.ref b195), .val (.int (own_f9 p1 p1 p2 p4)), .val (.int (own_f9 p1 p1 p4 p2)), .val (.long (own_f10 p1 p2)), .second, .val (.long (own_f10 p1 p4)), .second] [(.int (1 : Int32)), (.int (own_f9 p1 p1 p2 p4))])) t → Steps p.tables e below (s₁.setTop (entryFrame m #[(.int p1), (.int p2), (.int p3), (.int p4), (.int p5), (.int p6)] maxLocals)) t := by
          intro t kt
          refine k232 t ?_
          show Steps p.tables e below (T230.setTop (mkF m 124 #[.val (.int p1), .val (.int p2), .val (.int p3), .val (.int p4), .val (.int p5), .val (.int p6), .val (.int p1), .val (.int p4), .val (.ref r162), .val (.ref r167), .val (.ref b174), .val (.ref b195), .val (.int (own_f9 p1 p1 p2 p4)), .val (.int (own_f9 p1 p1 p4 p2)), .val (.long (own_f10 p1 p2)), .second, .val (.long (own_f10 p1 p4)), .second] [(.int (lcmpW (own_f10 p1 p2) (own_f10 p1 p4))), (.int (own_f9 p1 p1 p2 p4))])) _
          refine XS.ifNo X230.here hx rfl (hb hby at_124) rfl ((if0 _ _).trans (tlt hc22).2.1) ?_
          show Steps p.tables e below (T230.setTop (mkF m 127 #[.val (.int p1), .val (.int p2), .val (.int p3), .val (.int p4), .val (.int p5), .val (.int p6), .val (.int p1), .val (.int p4), .val (.ref r162), .val (.ref r167), .val (.ref b174), .val (.ref b195), .val (.int (own_f9 p1 p1 p2 p4)), .val (.int (own_f9 p1 p1 p4 p2)), .val (.long (own_f10 p1 p2)), .second, .val (.long (own_f10 p1 p4)), .second] [(.int (own_f9 p1 p1 p2 p4))])) _
          refine XS.iconst X230.here hx rfl (hb hby at_127) ?_
          show Steps p.tables e below (T230.setTop (mkF m 128 #[.val (.int p1), .val (.int p2), .val (.int p3), .val (.int p4), .val (.int p5), .val (.int p6), .val (.int p1), .val (.int p4), .val (.ref r162), .val (.ref r167), .val (.ref b174), .val (.ref b195), .val (.int (own_f9 p1 p1 p2 p4)), .val (.int (own_f9 p1 p1 p4 p2)), .val (.long (own_f10 p1 p2)), .second, .val (.long (own_f10 p1 p4)), .second] [(.int (1 : Int32)), (.int (own_f9 p1 p1 p2 p4))])) _
          refine XS.goto X230.here hx rfl (pc0 := 128) (pc' := 132) rfl (hb hby at_128) (by decide) (by decide) ?_
          exact kt
        by_cases hc23 : (own_f9 p1 p1 p2 p4) = (1 : Int32)
        ·
          have k234 : ∀ t, Steps p.tables e below (T230.setTop (mkF m 142 #[.val (.int p1), .val (.int p2), .val (.int p3), .val (.int p4), .val (.int p5), .val (.int p6), .val (.int p1), .val (.int p4), .val (.ref r162), .val (.ref r167), .val (.ref b174), .val (.ref b195), .val (.int (own_f9 p1 p1 p2 p4)), .val (.int (own_f9 p1 p1 p4 p2)), .val (.long (own_f10 p1 p2)), .second, .val (.long (own_f10 p1 p4)), .second] [(.int (lcmpW (own_f10 p1 p4) (own_f10 p1 p2))), (.int (own_f9 p1 p1 p4 p2))])) t → Steps p.tables e below (s₁.setTop (entryFrame m #[(.int p1), (.int p2), (.int p3), (.int p4), (.int p5), (.int p6)] maxLocals)) t := by
            intro t kt
            refine k233 t ?_
            show Steps p.tables e below (T230.setTop (mkF m 132 #[.val (.int p1), .val (.int p2), .val (.int p3), .val (.int p4), .val (.int p5), .val (.int p6), .val (.int p1), .val (.int p4), .val (.ref r162), .val (.ref r167), .val (.ref b174), .val (.ref b195), .val (.int (own_f9 p1 p1 p2 p4)), .val (.int (own_f9 p1 p1 p4 p2)), .val (.long (own_f10 p1 p2)), .second, .val (.long (own_f10 p1 p4)), .second] [(.int (1 : Int32)), (.int (own_f9 p1 p1 p2 p4))])) _
            refine XS.icmpNo X230.here hx rfl (hb hby at_132) rfl (teq hc23).2 ?_
            show Steps p.tables e below (T230.setTop (mkF m 135 #[.val (.int p1), .val (.int p2), .val (.int p3), .val (.int p4), .val (.int p5), .val (.int p6), .val (.int p1), .val (.int p4), .val (.ref r162), .val (.ref r167), .val (.ref b174), .val (.ref b195), .val (.int (own_f9 p1 p1 p2 p4)), .val (.int (own_f9 p1 p1 p4 p2)), .val (.long (own_f10 p1 p2)), .second, .val (.long (own_f10 p1 p4)), .second] [])) _
            refine XS.iload X230.here hx rfl (hb hby at_135) rfl ?_
            show Steps p.tables e below (T230.setTop (mkF m 137 #[.val (.int p1), .val (.int p2), .val (.int p3), .val (.int p4), .val (.int p5), .val (.int p6), .val (.int p1), .val (.int p4), .val (.ref r162), .val (.ref r167), .val (.ref b174), .val (.ref b195), .val (.int (own_f9 p1 p1 p2 p4)), .val (.int (own_f9 p1 p1 p4 p2)), .val (.long (own_f10 p1 p2)), .second, .val (.long (own_f10 p1 p4)), .second] [(.int (own_f9 p1 p1 p4 p2))])) _
            refine XS.lload X230.here hx rfl (hb hby at_137) rfl ?_
            show Steps p.tables e below (T230.setTop (mkF m 139 #[.val (.int p1), .val (.int p2), .val (.int p3), .val (.int p4), .val (.int p5), .val (.int p6), .val (.int p1), .val (.int p4), .val (.ref r162), .val (.ref r167), .val (.ref b174), .val (.ref b195), .val (.int (own_f9 p1 p1 p2 p4)), .val (.int (own_f9 p1 p1 p4 p2)), .val (.long (own_f10 p1 p2)), .second, .val (.long (own_f10 p1 p4)), .second] [(.long (own_f10 p1 p4)), (.int (own_f9 p1 p1 p4 p2))])) _
            refine XS.lload X230.here hx rfl (hb hby at_139) rfl ?_
            show Steps p.tables e below (T230.setTop (mkF m 141 #[.val (.int p1), .val (.int p2), .val (.int p3), .val (.int p4), .val (.int p5), .val (.int p6), .val (.int p1), .val (.int p4), .val (.ref r162), .val (.ref r167), .val (.ref b174), .val (.ref b195), .val (.int (own_f9 p1 p1 p2 p4)), .val (.int (own_f9 p1 p1 p4 p2)), .val (.long (own_f10 p1 p2)), .second, .val (.long (own_f10 p1 p4)), .second] [(.long (own_f10 p1 p2)), (.long (own_f10 p1 p4)), (.int (own_f9 p1 p1 p4 p2))])) _
            refine XS.lcmp X230.here hx rfl (hb hby at_141) rfl ?_
            exact kt
          by_cases hc24 : (lcmpW (own_f10 p1 p4) (own_f10 p1 p2)) < (0 : Int32)
          ·
            have k235 : ∀ t, Steps p.tables e below (T230.setTop (mkF m 150 #[.val (.int p1), .val (.int p2), .val (.int p3), .val (.int p4), .val (.int p5), .val (.int p6), .val (.int p1), .val (.int p4), .val (.ref r162), .val (.ref r167), .val (.ref b174), .val (.ref b195), .val (.int (own_f9 p1 p1 p2 p4)), .val (.int (own_f9 p1 p1 p4 p2)), .val (.long (own_f10 p1 p2)), .second, .val (.long (own_f10 p1 p4)), .second] [(.int (1 : Int32)), (.int (own_f9 p1 p1 p4 p2))])) t → Steps p.tables e below (s₁.setTop (entryFrame m #[(.int p1), (.int p2), (.int p3), (.int p4), (.int p5), (.int p6)] maxLocals)) t := by
              intro t kt
              refine k234 t ?_
              show Steps p.tables e below (T230.setTop (mkF m 142 #[.val (.int p1), .val (.int p2), .val (.int p3), .val (.int p4), .val (.int p5), .val (.int p6), .val (.int p1), .val (.int p4), .val (.ref r162), .val (.ref r167), .val (.ref b174), .val (.ref b195), .val (.int (own_f9 p1 p1 p2 p4)), .val (.int (own_f9 p1 p1 p4 p2)), .val (.long (own_f10 p1 p2)), .second, .val (.long (own_f10 p1 p4)), .second] [(.int (lcmpW (own_f10 p1 p4) (own_f10 p1 p2))), (.int (own_f9 p1 p1 p4 p2))])) _
              refine XS.ifNo X230.here hx rfl (hb hby at_142) rfl ((if0 _ _).trans (tlt hc24).2.1) ?_
              show Steps p.tables e below (T230.setTop (mkF m 145 #[.val (.int p1), .val (.int p2), .val (.int p3), .val (.int p4), .val (.int p5), .val (.int p6), .val (.int p1), .val (.int p4), .val (.ref r162), .val (.ref r167), .val (.ref b174), .val (.ref b195), .val (.int (own_f9 p1 p1 p2 p4)), .val (.int (own_f9 p1 p1 p4 p2)), .val (.long (own_f10 p1 p2)), .second, .val (.long (own_f10 p1 p4)), .second] [(.int (own_f9 p1 p1 p4 p2))])) _
              refine XS.iconst X230.here hx rfl (hb hby at_145) ?_
              show Steps p.tables e below (T230.setTop (mkF m 146 #[.val (.int p1), .val (.int p2), .val (.int p3), .val (.int p4), .val (.int p5), .val (.int p6), .val (.int p1), .val (.int p4), .val (.ref r162), .val (.ref r167), .val (.ref b174), .val (.ref b195), .val (.int (own_f9 p1 p1 p2 p4)), .val (.int (own_f9 p1 p1 p4 p2)), .val (.long (own_f10 p1 p2)), .second, .val (.long (own_f10 p1 p4)), .second] [(.int (1 : Int32)), (.int (own_f9 p1 p1 p4 p2))])) _
              refine XS.goto X230.here hx rfl (pc0 := 146) (pc' := 150) rfl (hb hby at_146) (by decide) (by decide) ?_
              exact kt
            by_cases hc25 : (own_f9 p1 p1 p4 p2) = (1 : Int32)
            ·
              obtain ⟨fs, hr, hrun, hended, hE⟩ := Stand.leaveW (s := s) (vm₁ := T207.vm) X230 hS207 (by rw [e230]; exact (Nat.le_refl _)) (hlocks := hlk) (v := some (.int (1 : Int32))) (fun h => by rw [Bd.returns] at h; cases h)
              refine ⟨_, _, k235 _ ?_, hrun, hended, _, _, rfl, ?_, hE.1, hE.2.1, hE.2.2.1, hE.2.2.2.mono (by decide) (by decide)⟩
              · show Steps p.tables e below (T230.setTop (mkF m 150 #[.val (.int p1), .val (.int p2), .val (.int p3), .val (.int p4), .val (.int p5), .val (.int p6), .val (.int p1), .val (.int p4), .val (.ref r162), .val (.ref r167), .val (.ref b174), .val (.ref b195), .val (.int (own_f9 p1 p1 p2 p4)), .val (.int (own_f9 p1 p1 p4 p2)), .val (.long (own_f10 p1 p2)), .second, .val (.long (own_f10 p1 p4)), .second] [(.int (1 : Int32)), (.int (own_f9 p1 p1 p4 p2))])) _
                refine XS.icmpNo X230.here hx rfl (hb hby at_150) rfl (teq hc25).2 ?_
                show Steps p.tables e below (T230.setTop (mkF m 153 #[.val (.int p1), .val (.int p2), .val (.int p3), .val (.int p4), .val (.int p5), .val (.int p6), .val (.int p1), .val (.int p4), .val (.ref r162), .val (.ref r167), .val (.ref b174), .val (.ref b195), .val (.int (own_f9 p1 p1 p2 p4)), .val (.int (own_f9 p1 p1 p4 p2)), .val (.long (own_f10 p1 p2)), .second, .val (.long (own_f10 p1 p4)), .second] [])) _
                refine XS.iconst X230.here hx rfl (hb hby at_153) ?_
                show Steps p.tables e below (T230.setTop (mkF m 154 #[.val (.int p1), .val (.int p2), .val (.int p3), .val (.int p4), .val (.int p5), .val (.int p6), .val (.int p1), .val (.int p4), .val (.ref r162), .val (.ref r167), .val (.ref b174), .val (.ref b195), .val (.int (own_f9 p1 p1 p2 p4)), .val (.int (own_f9 p1 p1 p4 p2)), .val (.long (own_f10 p1 p2)), .second, .val (.long (own_f10 p1 p4)), .second] [(.int (1 : Int32))])) _
                refine XS.goto X230.here hx rfl (pc0 := 154) (pc' := 158) rfl (hb hby at_154) (by decide) (by decide) ?_
                show Steps p.tables e below (T230.setTop (mkF m 158 #[.val (.int p1), .val (.int p2), .val (.int p3), .val (.int p4), .val (.int p5), .val (.int p6), .val (.int p1), .val (.int p4), .val (.ref r162), .val (.ref r167), .val (.ref b174), .val (.ref b195), .val (.int (own_f9 p1 p1 p2 p4)), .val (.int (own_f9 p1 p1 p4 p2)), .val (.long (own_f10 p1 p2)), .second, .val (.long (own_f10 p1 p4)), .second] [(.int (1 : Int32))])) _
                exact retN X230 hx (t := .boolean) Bd.returns (by simp) (hb hby at_158) hr
              · show own_Q0 Z p1 p2 p3 p4 p5 p6 w_COMPACT_STRINGS h0 n0 _ T230.heap _
                rw [e230]
                exact ⟨(by rw [own_f0, if_neg hc1, if_pos hc21, if_pos hc22, if_pos hc23, if_pos hc24, if_pos hc25]), N231⟩
            ·
              obtain ⟨fs, hr, hrun, hended, hE⟩ := Stand.leaveW (s := s) (vm₁ := T207.vm) X230 hS207 (by rw [e230]; exact (Nat.le_refl _)) (hlocks := hlk) (v := some (.int (0 : Int32))) (fun h => by rw [Bd.returns] at h; cases h)
              refine ⟨_, _, k235 _ ?_, hrun, hended, _, _, rfl, ?_, hE.1, hE.2.1, hE.2.2.1, hE.2.2.2.mono (by decide) (by decide)⟩
              · show Steps p.tables e below (T230.setTop (mkF m 150 #[.val (.int p1), .val (.int p2), .val (.int p3), .val (.int p4), .val (.int p5), .val (.int p6), .val (.int p1), .val (.int p4), .val (.ref r162), .val (.ref r167), .val (.ref b174), .val (.ref b195), .val (.int (own_f9 p1 p1 p2 p4)), .val (.int (own_f9 p1 p1 p4 p2)), .val (.long (own_f10 p1 p2)), .second, .val (.long (own_f10 p1 p4)), .second] [(.int (1 : Int32)), (.int (own_f9 p1 p1 p4 p2))])) _
                refine XS.icmpYes X230.here hx rfl (pc0 := 150) (pc' := 157) rfl (hb hby at_150) rfl (feq hc25).2 (by decide) (by decide) ?_
                show Steps p.tables e below (T230.setTop (mkF m 157 #[.val (.int p1), .val (.int p2), .val (.int p3), .val (.int p4), .val (.int p5), .val (.int p6), .val (.int p1), .val (.int p4), .val (.ref r162), .val (.ref r167), .val (.ref b174), .val (.ref b195), .val (.int (own_f9 p1 p1 p2 p4)), .val (.int (own_f9 p1 p1 p4 p2)), .val (.long (own_f10 p1 p2)), .second, .val (.long (own_f10 p1 p4)), .second] [])) _
                refine XS.iconst X230.here hx rfl (hb hby at_157) ?_
                show Steps p.tables e below (T230.setTop (mkF m 158 #[.val (.int p1), .val (.int p2), .val (.int p3), .val (.int p4), .val (.int p5), .val (.int p6), .val (.int p1), .val (.int p4), .val (.ref r162), .val (.ref r167), .val (.ref b174), .val (.ref b195), .val (.int (own_f9 p1 p1 p2 p4)), .val (.int (own_f9 p1 p1 p4 p2)), .val (.long (own_f10 p1 p2)), .second, .val (.long (own_f10 p1 p4)), .second] [(.int (0 : Int32))])) _
                exact retN X230 hx (t := .boolean) Bd.returns (by simp) (hb hby at_158) hr
              · show own_Q0 Z p1 p2 p3 p4 p5 p6 w_COMPACT_STRINGS h0 n0 _ T230.heap _
                rw [e230]
                exact ⟨(by rw [own_f0, if_neg hc1, if_pos hc21, if_pos hc22, if_pos hc23, if_pos hc24, if_neg hc25]), N231⟩
          ·
            have k236 : ∀ t, Steps p.tables e below (T230.setTop (mkF m 150 #[.val (.int p1), .val (.int p2), .val (.int p3), .val (.int p4), .val (.int p5), .val (.int p6), .val (.int p1), .val (.int p4), .val (.ref r162), .val (.ref r167), .val (.ref b174), .val (.ref b195), .val (.int (own_f9 p1 p1 p2 p4)), .val (.int (own_f9 p1 p1 p4 p2)), .val (.long (own_f10 p1 p2)), .second, .val (.long (own_f10 p1 p4)), .second] [(.int (0 : Int32)), (.int (own_f9 p1 p1 p4 p2))])) t → Steps p.tables e below (s₁.setTop (entryFrame m #[(.int p1), (.int p2), (.int p3), (.int p4), (.int p5), (.int p6)] maxLocals)) t := by
              intro t kt
              refine k234 t ?_
              show Steps p.tables e below (T230.setTop (mkF m 142 #[.val (.int p1), .val (.int p2), .val (.int p3), .val (.int p4), .val (.int p5), .val (.int p6), .val (.int p1), .val (.int p4), .val (.ref r162), .val (.ref r167), .val (.ref b174), .val (.ref b195), .val (.int (own_f9 p1 p1 p2 p4)), .val (.int (own_f9 p1 p1 p4 p2)), .val (.long (own_f10 p1 p2)), .second, .val (.long (own_f10 p1 p4)), .second] [(.int (lcmpW (own_f10 p1 p4) (own_f10 p1 p2))), (.int (own_f9 p1 p1 p4 p2))])) _
              refine XS.ifYes X230.here hx rfl (pc0 := 142) (pc' := 149) rfl (hb hby at_142) rfl ((if0 _ _).trans (flt hc24).2.1) (by decide) (by decide) ?_
              show Steps p.tables e below (T230.setTop (mkF m 149 #[.val (.int p1), .val (.int p2), .val (.int p3), .val (.int p4), .val (.int p5), .val (.int p6), .val (.int p1), .val (.int p4), .val (.ref r162), .val (.ref r167), .val (.ref b174), .val (.ref b195), .val (.int (own_f9 p1 p1 p2 p4)), .val (.int (own_f9 p1 p1 p4 p2)), .val (.long (own_f10 p1 p2)), .second, .val (.long (own_f10 p1 p4)), .second] [(.int (own_f9 p1 p1 p4 p2))])) _
              refine XS.iconst X230.here hx rfl (hb hby at_149) ?_
              exact kt
            by_cases hc26 : (own_f9 p1 p1 p4 p2) = (0 : Int32)
            ·
              obtain ⟨fs, hr, hrun, hended, hE⟩ := Stand.leaveW (s := s) (vm₁ := T207.vm) X230 hS207 (by rw [e230]; exact (Nat.le_refl _)) (hlocks := hlk) (v := some (.int (1 : Int32))) (fun h => by rw [Bd.returns] at h; cases h)
              refine ⟨_, _, k236 _ ?_, hrun, hended, _, _, rfl, ?_, hE.1, hE.2.1, hE.2.2.1, hE.2.2.2.mono (by decide) (by decide)⟩
              · show Steps p.tables e below (T230.setTop (mkF m 150 #[.val (.int p1), .val (.int p2), .val (.int p3), .val (.int p4), .val (.int p5), .val (.int p6), .val (.int p1), .val (.int p4), .val (.ref r162), .val (.ref r167), .val (.ref b174), .val (.ref b195), .val (.int (own_f9 p1 p1 p2 p4)), .val (.int (own_f9 p1 p1 p4 p2)), .val (.long (own_f10 p1 p2)), .second, .val (.long (own_f10 p1 p4)), .second] [(.int (0 : Int32)), (.int (own_f9 p1 p1 p4 p2))])) _
                refine XS.icmpNo X230.here hx rfl (hb hby at_150) rfl (teq hc26).2 ?_
                show Steps p.tables e below (T230.setTop (mkF m 153 #[.val (.int p1), .val (.int p2), .val (.int p3), .val (.int p4), .val (.int p5), .val (.int p6), .val (.int p1), .val (.int p4), .val (.ref r162), .val (.ref r167), .val (.ref b174), .val (.ref b195), .val (.int (own_f9 p1 p1 p2 p4)), .val (.int (own_f9 p1 p1 p4 p2)), .val (.long (own_f10 p1 p2)), .second, .val (.long (own_f10 p1 p4)), .second] [])) _
                refine XS.iconst X230.here hx rfl (hb hby at_153) ?_
                show Steps p.tables e below (T230.setTop (mkF m 154 #[.val (.int p1), .val (.int p2), .val (.int p3), .val (.int p4), .val (.int p5), .val (.int p6), .val (.int p1), .val (.int p4), .val (.ref r162), .val (.ref r167), .val (.ref b174), .val (.ref b195), .val (.int (own_f9 p1 p1 p2 p4)), .val (.int (own_f9 p1 p1 p4 p2)), .val (.long (own_f10 p1 p2)), .second, .val (.long (own_f10 p1 p4)), .second] [(.int (1 : Int32))])) _
                refine XS.goto X230.here hx rfl (pc0 := 154) (pc' := 158) rfl (hb hby at_154) (by decide) (by decide) ?_
                show Steps p.tables e below (T230.setTop (mkF m 158 #[.val (.int p1), .val (.int p2), .val (.int p3), .val (.int p4), .val (.int p5), .val (.int p6), .val (.int p1), .val (.int p4), .val (.ref r162), .val (.ref r167), .val (.ref b174), .val (.ref b195), .val (.int (own_f9 p1 p1 p2 p4)), .val (.int (own_f9 p1 p1 p4 p2)), .val (.long (own_f10 p1 p2)), .second, .val (.long (own_f10 p1 p4)), .second] [(.int (1 : Int32))])) _
                exact retN X230 hx (t := .boolean) Bd.returns (by simp) (hb hby at_158) hr
              · show own_Q0 Z p1 p2 p3 p4 p5 p6 w_COMPACT_STRINGS h0 n0 _ T230.heap _
                rw [e230]
                exact ⟨(by rw [own_f0, if_neg hc1, if_pos hc21, if_pos hc22, if_pos hc23, if_neg hc24, if_pos hc26]), N231⟩
            ·
              obtain ⟨fs, hr, hrun, hended, hE⟩ := Stand.leaveW (s := s) (vm₁ := T207.vm) X230 hS207 (by rw [e230]; exact (Nat.le_refl _)) (hlocks := hlk) (v := some (.int (0 : Int32))) (fun h => by rw [Bd.returns] at h; cases h)
              refine ⟨_, _, k236 _ ?_, hrun, hended, _, _, rfl, ?_, hE.1, hE.2.1, hE.2.2.1, hE.2.2.2.mono (by decide) (by decide)⟩
              · show Steps p.tables e below (T230.setTop (mkF m 150 #[.val (.int p1), .val (.int p2), .val (.int p3), .val (.int p4), .val (.int p5), .val (.int p6), .val (.int p1), .val (.int p4), .val (.ref r162), .val (.ref r167), .val (.ref b174), .val (.ref b195), .val (.int (own_f9 p1 p1 p2 p4)), .val (.int (own_f9 p1 p1 p4 p2)), .val (.long (own_f10 p1 p2)), .second, .val (.long (own_f10 p1 p4)), .second] [(.int (0 : Int32)), (.int (own_f9 p1 p1 p4 p2))])) _
                refine XS.icmpYes X230.here hx rfl (pc0 := 150) (pc' := 157) rfl (hb hby at_150) rfl (feq hc26).2 (by decide) (by decide) ?_
                show Steps p.tables e below (T230.setTop (mkF m 157 #[.val (.int p1), .val (.int p2), .val (.int p3), .val (.int p4), .val (.int p5), .val (.int p6), .val (.int p1), .val (.int p4), .val (.ref r162), .val (.ref r167), .val (.ref b174), .val (.ref b195), .val (.int (own_f9 p1 p1 p2 p4)), .val (.int (own_f9 p1 p1 p4 p2)), .val (.long (own_f10 p1 p2)), .second, .val (.long (own_f10 p1 p4)), .second] [])) _
                refine XS.iconst X230.here hx rfl (hb hby at_157) ?_
                show Steps p.tables e below (T230.setTop (mkF m 158 #[.val (.int p1), .val (.int p2), .val (.int p3), .val (.int p4), .val (.int p5), .val (.int p6), .val (.int p1), .val (.int p4), .val (.ref r162), .val (.ref r167), .val (.ref b174), .val (.ref b195), .val (.int (own_f9 p1 p1 p2 p4)), .val (.int (own_f9 p1 p1 p4 p2)), .val (.long (own_f10 p1 p2)), .second, .val (.long (own_f10 p1 p4)), .second] [(.int (0 : Int32))])) _
                exact retN X230 hx (t := .boolean) Bd.returns (by simp) (hb hby at_158) hr
              · show own_Q0 Z p1 p2 p3 p4 p5 p6 w_COMPACT_STRINGS h0 n0 _ T230.heap _
                rw [e230]
                exact ⟨(by rw [own_f0, if_neg hc1, if_pos hc21, if_pos hc22, if_pos hc23, if_neg hc24, if_neg hc26]), N231⟩
        ·
          obtain ⟨fs, hr, hrun, hended, hE⟩ := Stand.leaveW (s := s) (vm₁ := T207.vm) X230 hS207 (by rw [e230]; exact (Nat.le_refl _)) (hlocks := hlk) (v := some (.int (0 : Int32))) (fun h => by rw [Bd.returns] at h; cases h)
          refine ⟨_, _, k233 _ ?_, hrun, hended, _, _, rfl, ?_, hE.1, hE.2.1, hE.2.2.1, hE.2.2.2.mono (by decide) (by decide)⟩
          · show Steps p.tables e below (T230.setTop (mkF m 132 #[.val (.int p1), .val (.int p2), .val (.int p3), .val (.int p4), .val (.int p5), .val (.int p6), .val (.int p1), .val (.int p4), .val (.ref r162), .val (.ref r167), .val (.ref b174), .val (.ref b195), .val (.int (own_f9 p1 p1 p2 p4)), .val (.int (own_f9 p1 p1 p4 p2)), .val (.long (own_f10 p1 p2)), .second, .val (.long (own_f10 p1 p4)), .second] [(.int (1 : Int32)), (.int (own_f9 p1 p1 p2 p4))])) _
            refine XS.icmpYes X230.here hx rfl (pc0 := 132) (pc' := 157) rfl (hb hby at_132) rfl (feq hc23).2 (by decide) (by decide) ?_
            show Steps p.tables e below (T230.setTop (mkF m 157 #[.val (.int p1), .val (.int p2), .val (.int p3), .val (.int p4), .val (.int p5), .val (.int p6), .val (.int p1), .val (.int p4), .val (.ref r162), .val (.ref r167), .val (.ref b174), .val (.ref b195), .val (.int (own_f9 p1 p1 p2 p4)), .val (.int (own_f9 p1 p1 p4 p2)), .val (.long (own_f10 p1 p2)), .second, .val (.long (own_f10 p1 p4)), .second] [])) _
            refine XS.iconst X230.here hx rfl (hb hby at_157) ?_
            show Steps p.tables e below (T230.setTop (mkF m 158 #[.val (.int p1), .val (.int p2), .val (.int p3), .val (.int p4), .val (.int p5), .val (.int p6), .val (.int p1), .val (.int p4), .val (.ref r162), .val (.ref r167), .val (.ref b174), .val (.ref b195), .val (.int (own_f9 p1 p1 p2 p4)), .val (.int (own_f9 p1 p1 p4 p2)), .val (.long (own_f10 p1 p2)), .second, .val (.long (own_f10 p1 p4)), .second] [(.int (0 : Int32))])) _
            exact retN X230 hx (t := .boolean) Bd.returns (by simp) (hb hby at_158) hr
          · show own_Q0 Z p1 p2 p3 p4 p5 p6 w_COMPACT_STRINGS h0 n0 _ T230.heap _
            rw [e230]
            exact ⟨(by rw [own_f0, if_neg hc1, if_pos hc21, if_pos hc22, if_neg hc23]), N231⟩
      ·
        have k237 : ∀ t, Steps p.tables e below (T230.setTop (mkF m 132 #[.val (.int p1), .val (.int p2), .val (.int p3), .val (.int p4), .val (.int p5), .val (.int p6), .val (.int p1), .val (.int p4), .val (.ref r162), .val (.ref r167), .val (.ref b174), .val (.ref b195), .val (.int (own_f9 p1 p1 p2 p4)), .val (.int (own_f9 p1 p1 p4 p2)), .val (.long (own_f10 p1 p2)), .second, .val (.long (own_f10 p1 p4)), .second] [(.int (0 : Int32)), (.int (own_f9 p1 p1 p2 p4))])) t → Steps p.tables e below (s₁.setTop (entryFrame m #[(.int p1), (.int p2), (.int p3), (.int p4), (.int p5), (.int p6)] maxLocals)) t := by
          intro t kt
          refine k232 t ?_
          show Steps p.tables e below (T230.setTop (mkF m 124 #[.val (.int p1), .val (.int p2), .val (.int p3), .val (.int p4), .val (.int p5), .val (.int p6), .val (.int p1), .val (.int p4), .val (.ref r162), .val (.ref r167), .val (.ref b174), .val (.ref b195), .val (.int (own_f9 p1 p1 p2 p4)), .val (.int (own_f9 p1 p1 p4 p2)), .val (.long (own_f10 p1 p2)), .second, .val (.long (own_f10 p1 p4)), .second] [(.int (lcmpW (own_f10 p1 p2) (own_f10 p1 p4))), (.int (own_f9 p1 p1 p2 p4))])) _
          refine XS.ifYes X230.here hx rfl (pc0 := 124) (pc' := 131) rfl (hb hby at_124) rfl ((if0 _ _).trans (flt hc22).2.1) (by decide) (by decide) ?_
          show Steps p.tables e below (T230.setTop (mkF m 131 #[.val (.int p1), .val (.int p2), .val (.int p3), .val (.int p4), .val (.int p5), .val (.int p6), .val (.int p1), .val (.int p4), .val (.ref r162), .val (.ref r167), .val (.ref b174), .val (.ref b195), .val (.int (own_f9 p1 p1 p2 p4)), .val (.int (own_f9 p1 p1 p4 p2)), .val (.long (own_f10 p1 p2)), .second, .val (.long (own_f10 p1 p4)), .second] [(.int (own_f9 p1 p1 p2 p4))])) _
          refine XS.iconst X230.here hx rfl (hb hby at_131) ?_
          exact kt
        by_cases hc27 : (own_f9 p1 p1 p2 p4) = (0 : Int32)
        ·
          have k238 : ∀ t, Steps p.tables e below (T230.setTop (mkF m 142 #[.val (.int p1), .val (.int p2), .val (.int p3), .val (.int p4), .val (.int p5), .val (.int p6), .val (.int p1), .val (.int p4), .val (.ref r162), .val (.ref r167), .val (.ref b174), .val (.ref b195), .val (.int (own_f9 p1 p1 p2 p4)), .val (.int (own_f9 p1 p1 p4 p2)), .val (.long (own_f10 p1 p2)), .second, .val (.long (own_f10 p1 p4)), .second] [(.int (lcmpW (own_f10 p1 p4) (own_f10 p1 p2))), (.int (own_f9 p1 p1 p4 p2))])) t → Steps p.tables e below (s₁.setTop (entryFrame m #[(.int p1), (.int p2), (.int p3), (.int p4), (.int p5), (.int p6)] maxLocals)) t := by
            intro t kt
            refine k237 t ?_
            show Steps p.tables e below (T230.setTop (mkF m 132 #[.val (.int p1), .val (.int p2), .val (.int p3), .val (.int p4), .val (.int p5), .val (.int p6), .val (.int p1), .val (.int p4), .val (.ref r162), .val (.ref r167), .val (.ref b174), .val (.ref b195), .val (.int (own_f9 p1 p1 p2 p4)), .val (.int (own_f9 p1 p1 p4 p2)), .val (.long (own_f10 p1 p2)), .second, .val (.long (own_f10 p1 p4)), .second] [(.int (0 : Int32)), (.int (own_f9 p1 p1 p2 p4))])) _
            refine XS.icmpNo X230.here hx rfl (hb hby at_132) rfl (teq hc27).2 ?_
            show Steps p.tables e below (T230.setTop (mkF m 135 #[.val (.int p1), .val (.int p2), .val (.int p3), .val (.int p4), .val (.int p5), .val (.int p6), .val (.int p1), .val (.int p4), .val (.ref r162), .val (.ref r167), .val (.ref b174), .val (.ref b195), .val (.int (own_f9 p1 p1 p2 p4)), .val (.int (own_f9 p1 p1 p4 p2)), .val (.long (own_f10 p1 p2)), .second, .val (.long (own_f10 p1 p4)), .second] [])) _
            refine XS.iload X230.here hx rfl (hb hby at_135) rfl ?_
            show Steps p.tables e below (T230.setTop (mkF m 137 #[.val (.int p1), .val (.int p2), .val (.int p3), .val (.int p4), .val (.int p5), .val (.int p6), .val (.int p1), .val (.int p4), .val (.ref r162), .val (.ref r167), .val (.ref b174), .val (.ref b195), .val (.int (own_f9 p1 p1 p2 p4)), .val (.int (own_f9 p1 p1 p4 p2)), .val (.long (own_f10 p1 p2)), .second, .val (.long (own_f10 p1 p4)), .second] [(.int (own_f9 p1 p1 p4 p2))])) _
            refine XS.lload X230.here hx rfl (hb hby at_137) rfl ?_
            show Steps p.tables e below (T230.setTop (mkF m 139 #[.val (.int p1), .val (.int p2), .val (.int p3), .val (.int p4), .val (.int p5), .val (.int p6), .val (.int p1), .val (.int p4), .val (.ref r162), .val (.ref r167), .val (.ref b174), .val (.ref b195), .val (.int (own_f9 p1 p1 p2 p4)), .val (.int (own_f9 p1 p1 p4 p2)), .val (.long (own_f10 p1 p2)), .second, .val (.long (own_f10 p1 p4)), .second] [(.long (own_f10 p1 p4)), (.int (own_f9 p1 p1 p4 p2))])) _
            refine XS.lload X230.here hx rfl (hb hby at_139) rfl ?_
            show Steps p.tables e below (T230.setTop (mkF m 141 #[.val (.int p1), .val (.int p2), .val (.int p3), .val (.int p4), .val (.int p5), .val (.int p6), .val (.int p1), .val (.int p4), .val (.ref r162), .val (.ref r167), .val (.ref b174), .val (.ref b195), .val (.int (own_f9 p1 p1 p2 p4)), .val (.int (own_f9 p1 p1 p4 p2)), .val (.long (own_f10 p1 p2)), .second, .val (.long (own_f10 p1 p4)), .second] [(.long (own_f10 p1 p2)), (.long (own_f10 p1 p4)), (.int (own_f9 p1 p1 p4 p2))])) _
            refine XS.lcmp X230.here hx rfl (hb hby at_141) rfl ?_
            exact kt
          by_cases hc28 : (lcmpW (own_f10 p1 p4) (own_f10 p1 p2)) < (0 : Int32)
          ·
            have k239 : ∀ t, Steps p.tables e below (T230.setTop (mkF m 150 #[.val (.int p1), .val (.int p2), .val (.int p3), .val (.int p4), .val (.int p5), .val (.int p6), .val (.int p1), .val (.int p4), .val (.ref r162), .val (.ref r167), .val (.ref b174), .val (.ref b195), .val (.int (own_f9 p1 p1 p2 p4)), .val (.int (own_f9 p1 p1 p4 p2)), .val (.long (own_f10 p1 p2)), .second, .val (.long (own_f10 p1 p4)), .second] [(.int (1 : Int32)), (.int (own_f9 p1 p1 p4 p2))])) t → Steps p.tables e below (s₁.setTop (entryFrame m #[(.int p1), (.int p2), (.int p3), (.int p4), (.int p5), (.int p6)] maxLocals)) t := by
              intro t kt
              refine k238 t ?_
              show Steps p.tables e below (T230.setTop (mkF m 142 #[.val (.int p1), .val (.int p2), .val (.int p3), .val (.int p4), .val (.int p5), .val (.int p6), .val (.int p1), .val (.int p4), .val (.ref r162), .val (.ref r167), .val (.ref b174), .val (.ref b195), .val (.int (own_f9 p1 p1 p2 p4)), .val (.int (own_f9 p1 p1 p4 p2)), .val (.long (own_f10 p1 p2)), .second, .val (.long (own_f10 p1 p4)), .second] [(.int (lcmpW (own_f10 p1 p4) (own_f10 p1 p2))), (.int (own_f9 p1 p1 p4 p2))])) _
              refine XS.ifNo X230.here hx rfl (hb hby at_142) rfl ((if0 _ _).trans (tlt hc28).2.1) ?_
              show Steps p.tables e below (T230.setTop (mkF m 145 #[.val (.int p1), .val (.int p2), .val (.int p3), .val (.int p4), .val (.int p5), .val (.int p6), .val (.int p1), .val (.int p4), .val (.ref r162), .val (.ref r167), .val (.ref b174), .val (.ref b195), .val (.int (own_f9 p1 p1 p2 p4)), .val (.int (own_f9 p1 p1 p4 p2)), .val (.long (own_f10 p1 p2)), .second, .val (.long (own_f10 p1 p4)), .second] [(.int (own_f9 p1 p1 p4 p2))])) _
              refine XS.iconst X230.here hx rfl (hb hby at_145) ?_
              show Steps p.tables e below (T230.setTop (mkF m 146 #[.val (.int p1), .val (.int p2), .val (.int p3), .val (.int p4), .val (.int p5), .val (.int p6), .val (.int p1), .val (.int p4), .val (.ref r162), .val (.ref r167), .val (.ref b174), .val (.ref b195), .val (.int (own_f9 p1 p1 p2 p4)), .val (.int (own_f9 p1 p1 p4 p2)), .val (.long (own_f10 p1 p2)), .second, .val (.long (own_f10 p1 p4)), .second] [(.int (1 : Int32)), (.int (own_f9 p1 p1 p4 p2))])) _
              refine XS.goto X230.here hx rfl (pc0 := 146) (pc' := 150) rfl (hb hby at_146) (by decide) (by decide) ?_
              exact kt
            by_cases hc29 : (own_f9 p1 p1 p4 p2) = (1 : Int32)
            ·
              obtain ⟨fs, hr, hrun, hended, hE⟩ := Stand.leaveW (s := s) (vm₁ := T207.vm) X230 hS207 (by rw [e230]; exact (Nat.le_refl _)) (hlocks := hlk) (v := some (.int (1 : Int32))) (fun h => by rw [Bd.returns] at h; cases h)
              refine ⟨_, _, k239 _ ?_, hrun, hended, _, _, rfl, ?_, hE.1, hE.2.1, hE.2.2.1, hE.2.2.2.mono (by decide) (by decide)⟩
              · show Steps p.tables e below (T230.setTop (mkF m 150 #[.val (.int p1), .val (.int p2), .val (.int p3), .val (.int p4), .val (.int p5), .val (.int p6), .val (.int p1), .val (.int p4), .val (.ref r162), .val (.ref r167), .val (.ref b174), .val (.ref b195), .val (.int (own_f9 p1 p1 p2 p4)), .val (.int (own_f9 p1 p1 p4 p2)), .val (.long (own_f10 p1 p2)), .second, .val (.long (own_f10 p1 p4)), .second] [(.int (1 : Int32)), (.int (own_f9 p1 p1 p4 p2))])) _
                refine XS.icmpNo X230.here hx rfl (hb hby at_150) rfl (teq hc29).2 ?_
                show Steps p.tables e below (T230.setTop (mkF m 153 #[.val (.int p1), .val (.int p2), .val (.int p3), .val (.int p4), .val (.int p5), .val (.int p6), .val (.int p1), .val (.int p4), .val (.ref r162), .val (.ref r167), .val (.ref b174), .val (.ref b195), .val (.int (own_f9 p1 p1 p2 p4)), .val (.int (own_f9 p1 p1 p4 p2)), .val (.long (own_f10 p1 p2)), .second, .val (.long (own_f10 p1 p4)), .second] [])) _
                refine XS.iconst X230.here hx rfl (hb hby at_153) ?_
                show Steps p.tables e below (T230.setTop (mkF m 154 #[.val (.int p1), .val (.int p2), .val (.int p3), .val (.int p4), .val (.int p5), .val (.int p6), .val (.int p1), .val (.int p4), .val (.ref r162), .val (.ref r167), .val (.ref b174), .val (.ref b195), .val (.int (own_f9 p1 p1 p2 p4)), .val (.int (own_f9 p1 p1 p4 p2)), .val (.long (own_f10 p1 p2)), .second, .val (.long (own_f10 p1 p4)), .second] [(.int (1 : Int32))])) _
                refine XS.goto X230.here hx rfl (pc0 := 154) (pc' := 158) rfl (hb hby at_154) (by decide) (by decide) ?_
                show Steps p.tables e below (T230.setTop (mkF m 158 #[.val (.int p1), .val (.int p2), .val (.int p3), .val (.int p4), .val (.int p5), .val (.int p6), .val (.int p1), .val (.int p4), .val (.ref r162), .val (.ref r167), .val (.ref b174), .val (.ref b195), .val (.int (own_f9 p1 p1 p2 p4)), .val (.int (own_f9 p1 p1 p4 p2)), .val (.long (own_f10 p1 p2)), .second, .val (.long (own_f10 p1 p4)), .second] [(.int (1 : Int32))])) _
                exact retN X230 hx (t := .boolean) Bd.returns (by simp) (hb hby at_158) hr
              · show own_Q0 Z p1 p2 p3 p4 p5 p6 w_COMPACT_STRINGS h0 n0 _ T230.heap _
                rw [e230]
                exact ⟨(by rw [own_f0, if_neg hc1, if_pos hc21, if_neg hc22, if_pos hc27, if_pos hc28, if_pos hc29]), N231⟩
            ·
              obtain ⟨fs, hr, hrun, hended, hE⟩ := Stand.leaveW (s := s) (vm₁ := T207.vm) X230 hS207 (by rw [e230]; exact (Nat.le_refl _)) (hlocks := hlk) (v := some (.int (0 : Int32))) (fun h => by rw [Bd.returns] at h; cases h)
              refine ⟨_, _, k239 _ ?_, hrun, hended, _, _, rfl, ?_, hE.1, hE.2.1, hE.2.2.1, hE.2.2.2.mono (by decide) (by decide)⟩
              · show Steps p.tables e below (T230.setTop (mkF m 150 #[.val (.int p1), .val (.int p2), .val (.int p3), .val (.int p4), .val (.int p5), .val (.int p6), .val (.int p1), .val (.int p4), .val (.ref r162), .val (.ref r167), .val (.ref b174), .val (.ref b195), .val (.int (own_f9 p1 p1 p2 p4)), .val (.int (own_f9 p1 p1 p4 p2)), .val (.long (own_f10 p1 p2)), .second, .val (.long (own_f10 p1 p4)), .second] [(.int (1 : Int32)), (.int (own_f9 p1 p1 p4 p2))])) _
                refine XS.icmpYes X230.here hx rfl (pc0 := 150) (pc' := 157) rfl (hb hby at_150) rfl (feq hc29).2 (by decide) (by decide) ?_
                show Steps p.tables e below (T230.setTop (mkF m 157 #[.val (.int p1), .val (.int p2), .val (.int p3), .val (.int p4), .val (.int p5), .val (.int p6), .val (.int p1), .val (.int p4), .val (.ref r162), .val (.ref r167), .val (.ref b174), .val (.ref b195), .val (.int (own_f9 p1 p1 p2 p4)), .val (.int (own_f9 p1 p1 p4 p2)), .val (.long (own_f10 p1 p2)), .second, .val (.long (own_f10 p1 p4)), .second] [])) _
                refine XS.iconst X230.here hx rfl (hb hby at_157) ?_
                show Steps p.tables e below (T230.setTop (mkF m 158 #[.val (.int p1), .val (.int p2), .val (.int p3), .val (.int p4), .val (.int p5), .val (.int p6), .val (.int p1), .val (.int p4), .val (.ref r162), .val (.ref r167), .val (.ref b174), .val (.ref b195), .val (.int (own_f9 p1 p1 p2 p4)), .val (.int (own_f9 p1 p1 p4 p2)), .val (.long (own_f10 p1 p2)), .second, .val (.long (own_f10 p1 p4)), .second] [(.int (0 : Int32))])) _
                exact retN X230 hx (t := .boolean) Bd.returns (by simp) (hb hby at_158) hr
              · show own_Q0 Z p1 p2 p3 p4 p5 p6 w_COMPACT_STRINGS h0 n0 _ T230.heap _
                rw [e230]
                exact ⟨(by rw [own_f0, if_neg hc1, if_pos hc21, if_neg hc22, if_pos hc27, if_pos hc28, if_neg hc29]), N231⟩
          ·
            have k240 : ∀ t, Steps p.tables e below (T230.setTop (mkF m 150 #[.val (.int p1), .val (.int p2), .val (.int p3), .val (.int p4), .val (.int p5), .val (.int p6), .val (.int p1), .val (.int p4), .val (.ref r162), .val (.ref r167), .val (.ref b174), .val (.ref b195), .val (.int (own_f9 p1 p1 p2 p4)), .val (.int (own_f9 p1 p1 p4 p2)), .val (.long (own_f10 p1 p2)), .second, .val (.long (own_f10 p1 p4)), .second] [(.int (0 : Int32)), (.int (own_f9 p1 p1 p4 p2))])) t → Steps p.tables e below (s₁.setTop (entryFrame m #[(.int p1), (.int p2), (.int p3), (.int p4), (.int p5), (.int p6)] maxLocals)) t := by
              intro t kt
              refine k238 t ?_
              show Steps p.tables e below (T230.setTop (mkF m 142 #[.val (.int p1), .val (.int p2), .val (.int p3), .val (.int p4), .val (.int p5), .val (.int p6), .val (.int p1), .val (.int p4), .val (.ref r162), .val (.ref r167), .val (.ref b174), .val (.ref b195), .val (.int (own_f9 p1 p1 p2 p4)), .val (.int (own_f9 p1 p1 p4 p2)), .val (.long (own_f10 p1 p2)), .second, .val (.long (own_f10 p1 p4)), .second] [(.int (lcmpW (own_f10 p1 p4) (own_f10 p1 p2))), (.int (own_f9 p1 p1 p4 p2))])) _
              refine XS.ifYes X230.here hx rfl (pc0 := 142) (pc' := 149) rfl (hb hby at_142) rfl ((if0 _ _).trans (flt hc28).2.1) (by decide) (by decide) ?_
              show Steps p.tables e below (T230.setTop (mkF m 149 #[.val (.int p1), .val (.int p2), .val (.int p3), .val (.int p4), .val (.int p5), .val (.int p6), .val (.int p1), .val (.int p4), .val (.ref r162), .val (.ref r167), .val (.ref b174), .val (.ref b195), .val (.int (own_f9 p1 p1 p2 p4)), .val (.int (own_f9 p1 p1 p4 p2)), .val (.long (own_f10 p1 p2)), .second, .val (.long (own_f10 p1 p4)), .second] [(.int (own_f9 p1 p1 p4 p2))])) _
              refine XS.iconst X230.here hx rfl (hb hby at_149) ?_
              exact kt
            by_cases hc30 : (own_f9 p1 p1 p4 p2) = (0 : Int32)
            ·
              obtain ⟨fs, hr, hrun, hended, hE⟩ := Stand.leaveW (s := s) (vm₁ := T207.vm) X230 hS207 (by rw [e230]; exact (Nat.le_refl _)) (hlocks := hlk) (v := some (.int (1 : Int32))) (fun h => by rw [Bd.returns] at h; cases h)
              refine ⟨_, _, k240 _ ?_, hrun, hended, _, _, rfl, ?_, hE.1, hE.2.1, hE.2.2.1, hE.2.2.2.mono (by decide) (by decide)⟩
              · show Steps p.tables e below (T230.setTop (mkF m 150 #[.val (.int p1), .val (.int p2), .val (.int p3), .val (.int p4), .val (.int p5), .val (.int p6), .val (.int p1), .val (.int p4), .val (.ref r162), .val (.ref r167), .val (.ref b174), .val (.ref b195), .val (.int (own_f9 p1 p1 p2 p4)), .val (.int (own_f9 p1 p1 p4 p2)), .val (.long (own_f10 p1 p2)), .second, .val (.long (own_f10 p1 p4)), .second] [(.int (0 : Int32)), (.int (own_f9 p1 p1 p4 p2))])) _
                refine XS.icmpNo X230.here hx rfl (hb hby at_150) rfl (teq hc30).2 ?_
                show Steps p.tables e below (T230.setTop (mkF m 153 #[.val (.int p1), .val (.int p2), .val (.int p3), .val (.int p4), .val (.int p5), .val (.int p6), .val (.int p1), .val (.int p4), .val (.ref r162), .val (.ref r167), .val (.ref b174), .val (.ref b195), .val (.int (own_f9 p1 p1 p2 p4)), .val (.int (own_f9 p1 p1 p4 p2)), .val (.long (own_f10 p1 p2)), .second, .val (.long (own_f10 p1 p4)), .second] [])) _
                refine XS.iconst X230.here hx rfl (hb hby at_153) ?_
                show Steps p.tables e below (T230.setTop (mkF m 154 #[.val (.int p1), .val (.int p2), .val (.int p3), .val (.int p4), .val (.int p5), .val (.int p6), .val (.int p1), .val (.int p4), .val (.ref r162), .val (.ref r167), .val (.ref b174), .val (.ref b195), .val (.int (own_f9 p1 p1 p2 p4)), .val (.int (own_f9 p1 p1 p4 p2)), .val (.long (own_f10 p1 p2)), .second, .val (.long (own_f10 p1 p4)), .second] [(.int (1 : Int32))])) _
                refine XS.goto X230.here hx rfl (pc0 := 154) (pc' := 158) rfl (hb hby at_154) (by decide) (by decide) ?_
                show Steps p.tables e below (T230.setTop (mkF m 158 #[.val (.int p1), .val (.int p2), .val (.int p3), .val (.int p4), .val (.int p5), .val (.int p6), .val (.int p1), .val (.int p4), .val (.ref r162), .val (.ref r167), .val (.ref b174), .val (.ref b195), .val (.int (own_f9 p1 p1 p2 p4)), .val (.int (own_f9 p1 p1 p4 p2)), .val (.long (own_f10 p1 p2)), .second, .val (.long (own_f10 p1 p4)), .second] [(.int (1 : Int32))])) _
                exact retN X230 hx (t := .boolean) Bd.returns (by simp) (hb hby at_158) hr
              · show own_Q0 Z p1 p2 p3 p4 p5 p6 w_COMPACT_STRINGS h0 n0 _ T230.heap _
                rw [e230]
                exact ⟨(by rw [own_f0, if_neg hc1, if_pos hc21, if_neg hc22, if_pos hc27, if_neg hc28, if_pos hc30]), N231⟩
            ·
              obtain ⟨fs, hr, hrun, hended, hE⟩ := Stand.leaveW (s := s) (vm₁ := T207.vm) X230 hS207 (by rw [e230]; exact (Nat.le_refl _)) (hlocks := hlk) (v := some (.int (0 : Int32))) (fun h => by rw [Bd.returns] at h; cases h)
              refine ⟨_, _, k240 _ ?_, hrun, hended, _, _, rfl, ?_, hE.1, hE.2.1, hE.2.2.1, hE.2.2.2.mono (by decide) (by decide)⟩
              · show Steps p.tables e below (T230.setTop (mkF m 150 #[.val (.int p1), .val (.int p2), .val (.int p3), .val (.int p4), .val (.int p5), .val (.int p6), .val (.int p1), .val (.int p4), .val (.ref r162), .val (.ref r167), .val (.ref b174), .val (.ref b195), .val (.int (own_f9 p1 p1 p2 p4)), .val (.int (own_f9 p1 p1 p4 p2)), .val (.long (own_f10 p1 p2)), .second, .val (.long (own_f10 p1 p4)), .second] [(.int (0 : Int32)), (.int (own_f9 p1 p1 p4 p2))])) _
                refine XS.icmpYes X230.here hx rfl (pc0 := 150) (pc' := 157) rfl (hb hby at_150) rfl (feq hc30).2 (by decide) (by decide) ?_
                show Steps p.tables e below (T230.setTop (mkF m 157 #[.val (.int p1), .val (.int p2), .val (.int p3), .val (.int p4), .val (.int p5), .val (.int p6), .val (.int p1), .val (.int p4), .val (.ref r162), .val (.ref r167), .val (.ref b174), .val (.ref b195), .val (.int (own_f9 p1 p1 p2 p4)), .val (.int (own_f9 p1 p1 p4 p2)), .val (.long (own_f10 p1 p2)), .second, .val (.long (own_f10 p1 p4)), .second] [])) _
                refine XS.iconst X230.here hx rfl (hb hby at_157) ?_
                show Steps p.tables e below (T230.setTop (mkF m 158 #[.val (.int p1), .val (.int p2), .val (.int p3), .val (.int p4), .val (.int p5), .val (.int p6), .val (.int p1), .val (.int p4), .val (.ref r162), .val (.ref r167), .val (.ref b174), .val (.ref b195), .val (.int (own_f9 p1 p1 p2 p4)), .val (.int (own_f9 p1 p1 p4 p2)), .val (.long (own_f10 p1 p2)), .second, .val (.long (own_f10 p1 p4)), .second] [(.int (0 : Int32))])) _
                exact retN X230 hx (t := .boolean) Bd.returns (by simp) (hb hby at_158) hr
              · show own_Q0 Z p1 p2 p3 p4 p5 p6 w_COMPACT_STRINGS h0 n0 _ T230.heap _
                rw [e230]
                exact ⟨(by rw [own_f0, if_neg hc1, if_pos hc21, if_neg hc22, if_pos hc27, if_neg hc28, if_neg hc30]), N231⟩
        ·
          obtain ⟨fs, hr, hrun, hended, hE⟩ := Stand.leaveW (s := s) (vm₁ := T207.vm) X230 hS207 (by rw [e230]; exact (Nat.le_refl _)) (hlocks := hlk) (v := some (.int (0 : Int32))) (fun h => by rw [Bd.returns] at h; cases h)
          refine ⟨_, _, k237 _ ?_, hrun, hended, _, _, rfl, ?_, hE.1, hE.2.1, hE.2.2.1, hE.2.2.2.mono (by decide) (by decide)⟩
          · show Steps p.tables e below (T230.setTop (mkF m 132 #[.val (.int p1), .val (.int p2), .val (.int p3), .val (.int p4), .val (.int p5), .val (.int p6), .val (.int p1), .val (.int p4), .val (.ref r162), .val (.ref r167), .val (.ref b174), .val (.ref b195), .val (.int (own_f9 p1 p1 p2 p4)), .val (.int (own_f9 p1 p1 p4 p2)), .val (.long (own_f10 p1 p2)), .second, .val (.long (own_f10 p1 p4)), .second] [(.int (0 : Int32)), (.int (own_f9 p1 p1 p2 p4))])) _
            refine XS.icmpYes X230.here hx rfl (pc0 := 132) (pc' := 157) rfl (hb hby at_132) rfl (feq hc27).2 (by decide) (by decide) ?_
            show Steps p.tables e below (T230.setTop (mkF m 157 #[.val (.int p1), .val (.int p2), .val (.int p3), .val (.int p4), .val (.int p5), .val (.int p6), .val (.int p1), .val (.int p4), .val (.ref r162), .val (.ref r167), .val (.ref b174), .val (.ref b195), .val (.int (own_f9 p1 p1 p2 p4)), .val (.int (own_f9 p1 p1 p4 p2)), .val (.long (own_f10 p1 p2)), .second, .val (.long (own_f10 p1 p4)), .second] [])) _
            refine XS.iconst X230.here hx rfl (hb hby at_157) ?_
            show Steps p.tables e below (T230.setTop (mkF m 158 #[.val (.int p1), .val (.int p2), .val (.int p3), .val (.int p4), .val (.int p5), .val (.int p6), .val (.int p1), .val (.int p4), .val (.ref r162), .val (.ref r167), .val (.ref b174), .val (.ref b195), .val (.int (own_f9 p1 p1 p2 p4)), .val (.int (own_f9 p1 p1 p4 p2)), .val (.long (own_f10 p1 p2)), .second, .val (.long (own_f10 p1 p4)), .second] [(.int (0 : Int32))])) _
            exact retN X230 hx (t := .boolean) Bd.returns (by simp) (hb hby at_158) hr
          · show own_Q0 Z p1 p2 p3 p4 p5 p6 w_COMPACT_STRINGS h0 n0 _ T230.heap _
            rw [e230]
            exact ⟨(by rw [own_f0, if_neg hc1, if_pos hc21, if_neg hc22, if_neg hc27]), N231⟩
    ·
      obtain ⟨v241, _, ⟨T241, L241, k241, n241⟩, -, X241, ⟨Lc241, hQ241, l241, y241, z241⟩, st241⟩ := Jvm.LawKit.callS X0 hx (y := (⟨"java/lang/String", "valueOf", "(C)Ljava/lang/String;"⟩ : MethodName)) hown (mvT hZ (hw _ (List.mem_of_getElem? (i := 0) rfl))) (mvT hZ (hw _ (List.mem_of_getElem? (i := 1) rfl))) (mvT hZ (hw _ (List.mem_of_getElem? (i := 2) rfl))) (mvT hZ (hw _ (List.mem_of_getElem? (i := 3) rfl))) (by decide) (backOf (W := 0) (own_rm1 l Z a0 hw [] ((p6 &&& (255 : Int32)).toUInt32.toUInt16.toUInt32.toInt32) w_COMPACT_STRINGS h0 n0 Z0 hcs (own_lt255 _) S_COMPACT_STRINGS) hZ (hw _ (List.mem_of_getElem? (i := 3) rfl)) (hw _ (List.mem_of_getElem? (i := 2) rfl)) (by decide) (by decide)) (g := (mkF m 35 #[.val (.int p1), .val (.int p2), .val (.int p3), .val (.int p4), .val (.int p5), .val (.int p6), .val (.int p1), .val (.int p2), .unset, .unset, .unset, .unset, .unset, .unset, .unset, .unset, .unset, .unset] [(.int ((p6 &&& (255 : Int32)).toUInt32.toUInt16.toUInt32.toInt32))])) rfl (by rw [hml]; rfl) (argsL := [(.int ((p6 &&& (255 : Int32)).toUInt32.toUInt16.toUInt32.toInt32))]) (rest := []) (lenOf own_pd102 rfl) rfl (by show 2 * 0 + _ ≤ _; exact Nat.le_of_eq rfl) (hb hby at_35) (fun _ _ => ⟨rfl, e0, (by decide : 0 + 2 ≤ _), (by decide : 0 + 5 ≤ _)⟩)
      dsimp only [Pt.U, Pt.locs, Pt.cells, Pt.slots] at X241 l241 y241 z241 st241 hQ241
      subst l241 y241 z241
      obtain ⟨r241, rfl, N241q, K241, hr241, Q241_0, Q241_1⟩ := hQ241
      have g_r241 : n0 ≤ r241 := Nat.le_trans Z0 hr241
      have f242 := own_staKeep S_COMPACT_STRINGS K241
      have Z243 := Nat.le_trans Z0 K241.1
      have hk244 := Nat.le_trans hk0 K241.1
      have N245 := Fr.app N0 N241q
      obtain ⟨v246, _, ⟨T246, L246, k246, n246⟩, -, X246, ⟨Lc246, hQ246, l246, y246, z246⟩, st246⟩ := Jvm.LawKit.callS X241 hx (y := (⟨"java/lang/String", "valueOf", "(C)Ljava/lang/String;"⟩ : MethodName)) hown (mvT hZ (hw _ (List.mem_of_getElem? (i := 0) rfl))) (mvT hZ (hw _ (List.mem_of_getElem? (i := 1) rfl))) (mvT hZ (hw _ (List.mem_of_getElem? (i := 2) rfl))) (mvT hZ (hw _ (List.mem_of_getElem? (i := 3) rfl))) (by decide) (backOf (W := 0) (own_rm1 l Z a0 hw [] ((((p6.toUInt32 >>> ((8 : Int32) &&& 31).toUInt32).toInt32) &&& (255 : Int32)).toUInt32.toUInt16.toUInt32.toInt32) w_COMPACT_STRINGS T241.heap n0 Z243 hcs (own_lt255 _) f242) hZ (hw _ (List.mem_of_getElem? (i := 3) rfl)) (hw _ (List.mem_of_getElem? (i := 2) rfl)) (by decide) (by decide)) (g := (mkF m 50 #[.val (.int p1), .val (.int p2), .val (.int p3), .val (.int p4), .val (.int p5), .val (.int p6), .val (.int p1), .val (.int p2), .val (.ref r241), .unset, .unset, .unset, .unset, .unset, .unset, .unset, .unset, .unset] [(.int ((((p6.toUInt32 >>> ((8 : Int32) &&& 31).toUInt32).toInt32) &&& (255 : Int32)).toUInt32.toUInt16.toUInt32.toInt32))])) rfl (by rw [hml]; rfl) (argsL := [(.int ((((p6.toUInt32 >>> ((8 : Int32) &&& 31).toUInt32).toInt32) &&& (255 : Int32)).toUInt32.toUInt16.toUInt32.toInt32))]) (rest := []) (lenOf own_pd102 rfl) rfl (by show 2 * 0 + _ ≤ _; exact Nat.le_of_eq rfl) (hb hby at_50) (fun _ _ => ⟨rfl, rfl, (by decide : 2 + 2 ≤ _), (by decide : 5 + 5 ≤ _)⟩)
      dsimp only [Pt.U, Pt.locs, Pt.cells, Pt.slots] at X246 l246 y246 z246 st246 hQ246
      subst l246 y246 z246
      obtain ⟨r246, rfl, N246q, K246, hr246, Q246_0, Q246_1⟩ := hQ246
      have ne_r241_r246 : r241 ≠ r246 := Nat.ne_of_lt (Nat.lt_of_lt_of_le Q241_0.lt hr246)
      have g_r246 : n0 ≤ r246 := Nat.le_trans Z243 hr246
      have f247 := own_staKeep f242 K246
      have f248 := Q241_0.keep K246
      have f249 := Q241_1.keep K246 nin0
      have Z250 := Nat.le_trans Z243 K246.1
      have hk251 := Nat.le_trans hk244 K246.1
      have N252 := Fr.app N245 N246q
      obtain ⟨T253, h253, X253, e253, E253, A253, D253, -, st253⟩ := newO X246 hx hZ hown (hw _ (List.mem_of_getElem? (i := 26) rfl)) (hw _ (List.mem_of_getElem? (i := 27) rfl)) (hw _ (List.mem_of_getElem? (i := 28) rfl)) rfl (g := (mkF m 55 #[.val (.int p1), .val (.int p2), .val (.int p3), .val (.int p4), .val (.int p5), .val (.int p6), .val (.int p1), .val (.int p2), .val (.ref r241), .val (.ref r246), .unset, .unset, .unset, .unset, .unset, .unset, .unset, .unset] [])) rfl (hb hby at_55) (by decide) (by decide)
      obtain ⟨b253, g253⟩ : ∃ z, z = T246.heap.size := ⟨_, rfl⟩
      rw [← g253] at A253 D253 st253
      have ne_r241_b253 : r241 ≠ b253 := Nat.ne_of_lt (Nat.lt_of_lt_of_le f248.lt (Nat.le_of_eq g253.symm))
      have ne_r246_b253 : r246 ≠ b253 := Nat.ne_of_lt (Nat.lt_of_lt_of_le Q246_0.lt (Nat.le_of_eq g253.symm))
      have g_b253 : n0 ≤ b253 := Nat.le_trans Z250 (Nat.le_of_eq g253.symm)
      have f254 := f247.ext E253
      have f255 := f248.ext E253
      have f256 := f249.ext E253
      have f257 := Q246_0.ext E253
      have f258 := Q246_1.ext E253
      have Z259 := Nat.le_trans Z250 E253.1
      have hk260 := Nat.le_trans hk251 E253.1
      have F_file_b253 : Fld Z h253 b253 "com/example/edgbaston/edgbaston/source/Location" "file" "Ljava/lang/String;" .null := D253 (Or.inr (hw _ (List.mem_of_getElem? (i := 46) rfl))) (ty := (.object "java/lang/String")) (by decide)
      have F_line_b253 : Fld Z h253 b253 "com/example/edgbaston/edgbaston/source/Location" "line" "I" (.int (0 : Int32)) := D253 (Or.inr (hw _ (List.mem_of_getElem? (i := 48) rfl))) (ty := .int) (by decide)
      have F_column_b253 : Fld Z h253 b253 "com/example/edgbaston/edgbaston/source/Location" "column" "I" (.int (0 : Int32)) := D253 (Or.inr (hw _ (List.mem_of_getElem? (i := 50) rfl))) (ty := .int) (by decide)
      obtain ⟨v261, _, ⟨T261, L261, k261, n261⟩, -, Y261, Si261, gr261, ⟨Lc261, hQ261, l261, y261, z261⟩, st261⟩ := X253.specialBackS hx (y := (⟨"com/example/edgbaston/edgbaston/source/Location", "<init>", "(Ljava/lang/String;II)V"⟩ : MethodName)) rfl hown (mvT hZ (hw _ (List.mem_of_getElem? (i := 29) rfl))) (mvT hZ (hw _ (List.mem_of_getElem? (i := 30) rfl))) (mvT hZ (hw _ (List.mem_of_getElem? (i := 31) rfl))) (by decide) (backOfS (W := 1) (own_rm6 l Z a0 hw [] b253 r241 p1 p2 .null (0 : Int32) (0 : Int32) h253 n0 Z259 A253 F_file_b253 g_b253 F_line_b253 F_column_b253) hZ (hw _ (List.mem_of_getElem? (i := 31) rfl)) (hw _ (List.mem_of_getElem? (i := 28) rfl)) (by decide) (by decide)) (g := (mkF m 63 #[.val (.int p1), .val (.int p2), .val (.int p3), .val (.int p4), .val (.int p5), .val (.int p6), .val (.int p1), .val (.int p2), .val (.ref r241), .val (.ref r246), .unset, .unset, .unset, .unset, .unset, .unset, .unset, .unset] [(.int p2), (.int p1), (.ref r241), (.ref b253), (.ref b253)])) rfl (by rw [hml]; rfl) (Steps.refl _) (a := b253) (argsL := [(.ref r241), (.int p1), (.int p2)]) (rest := [(.ref b253)]) (lenOf own_pd103 rfl) rfl (by show 2 * 0 + _ ≤ _; exact Nat.le_of_eq rfl) (hb hby at_63) (fun _ _ => ⟨rfl, e253, (by decide : 5 + 2 ≤ _), (by decide : 13 + 20 ≤ _)⟩)
      dsimp only [Pt.U, Pt.locs, Pt.cells, Pt.slots] at Y261 Si261 gr261 l261 y261 z261 st261 hQ261
      subst l261 y261 z261
      obtain ⟨X261, hS261, hZ261, hown261⟩ := rebS hS0 (by rw [e253]; exact hk260) Y261 Si261 gr261 hZ hown
      obtain ⟨rfl, N261q, K261, Q261_0, Q261_1, Q261_2, Q261_3⟩ := hQ261
      have f262 := own_staKeepE f254 K261 (allS ⟨_, A253⟩ all0)
      have f263 := f255.keep K261
      have f264 := f256.keep K261 (ninS ne_r241_b253 nin0)
      have f265 := f257.keep K261
      have f266 := f258.keep K261 (ninS ne_r246_b253 nin0)
      have f267 := A253.keep K261
      have Z271 := Nat.le_trans Z259 K261.1
      have hk272 := Nat.le_trans hk260 K261.1
      have N273 := Fr.app N252 N261q
      obtain ⟨T274, h274, X274, e274, E274, A274, D274, -, st274⟩ := newO X261 hx hZ261 hown261 (hw _ (List.mem_of_getElem? (i := 26) rfl)) (hw _ (List.mem_of_getElem? (i := 27) rfl)) (hw _ (List.mem_of_getElem? (i := 28) rfl)) rfl (g := (mkF m 68 #[.val (.int p1), .val (.int p2), .val (.int p3), .val (.int p4), .val (.int p5), .val (.int p6), .val (.int p1), .val (.int p2), .val (.ref r241), .val (.ref r246), .val (.ref b253), .unset, .unset, .unset, .unset, .unset, .unset, .unset] [])) rfl (hb hby at_68) (by decide) (by decide)
      obtain ⟨b274, g274⟩ : ∃ z, z = T261.heap.size := ⟨_, rfl⟩
      rw [← g274] at A274 D274 st274
      have ne_r241_b274 : r241 ≠ b274 := Nat.ne_of_lt (Nat.lt_of_lt_of_le f263.lt (Nat.le_of_eq g274.symm))
      have ne_r246_b274 : r246 ≠ b274 := Nat.ne_of_lt (Nat.lt_of_lt_of_le f265.lt (Nat.le_of_eq g274.symm))
      have ne_b253_b274 : b253 ≠ b274 := Nat.ne_of_lt (Nat.lt_of_lt_of_le Q261_0.lt (Nat.le_of_eq g274.symm))
      have g_b274 : n0 ≤ b274 := Nat.le_trans Z271 (Nat.le_of_eq g274.symm)
      have f275 := f262.ext E274
      have f276 := f263.ext E274
      have f277 := f264.ext E274
      have f278 := f265.ext E274
      have f279 := f266.ext E274
      have f280 := Q261_0.ext E274
      have f281 := Q261_1.ext E274
      have f282 := Q261_2.ext E274
      have f283 := Q261_3.ext E274
      have Z284 := Nat.le_trans Z271 E274.1
      have hk285 := Nat.le_trans (Nat.le_refl _) E274.1
      have F_file_b274 : Fld Z h274 b274 "com/example/edgbaston/edgbaston/source/Location" "file" "Ljava/lang/String;" .null := D274 (Or.inr (hw _ (List.mem_of_getElem? (i := 46) rfl))) (ty := (.object "java/lang/String")) (by decide)
      have F_line_b274 : Fld Z h274 b274 "com/example/edgbaston/edgbaston/source/Location" "line" "I" (.int (0 : Int32)) := D274 (Or.inr (hw _ (List.mem_of_getElem? (i := 48) rfl))) (ty := .int) (by decide)
      have F_column_b274 : Fld Z h274 b274 "com/example/edgbaston/edgbaston/source/Location" "column" "I" (.int (0 : Int32)) := D274 (Or.inr (hw _ (List.mem_of_getElem? (i := 50) rfl))) (ty := .int) (by decide)
      obtain ⟨v286, _, ⟨T286, L286, k286, n286⟩, -, Y286, Si286, gr286, ⟨Lc286, hQ286, l286, y286, z286⟩, st286⟩ := X274.specialBackS hx (y := (⟨"com/example/edgbaston/edgbaston/source/Location", "<init>", "(Ljava/lang/String;II)V"⟩ : MethodName)) rfl hown261 (mvT hZ261 (hw _ (List.mem_of_getElem? (i := 29) rfl))) (mvT hZ261 (hw _ (List.mem_of_getElem? (i := 30) rfl))) (mvT hZ261 (hw _ (List.mem_of_getElem? (i := 31) rfl))) (by decide) (backOfS (W := 1) (own_rm6 l Z a0 hw [] b274 r246 p1 p2 .null (0 : Int32) (0 : Int32) h274 n0 Z284 A274 F_file_b274 g_b274 F_line_b274 F_column_b274) hZ261 (hw _ (List.mem_of_getElem? (i := 31) rfl)) (hw _ (List.mem_of_getElem? (i := 28) rfl)) (by decide) (by decide)) (g := (mkF m 78 #[.val (.int p1), .val (.int p2), .val (.int p3), .val (.int p4), .val (.int p5), .val (.int p6), .val (.int p1), .val (.int p2), .val (.ref r241), .val (.ref r246), .val (.ref b253), .unset, .unset, .unset, .unset, .unset, .unset, .unset] [(.int p2), (.int p1), (.ref r246), (.ref b274), (.ref b274)])) rfl (by rw [hml]; rfl) (Steps.refl _) (a := b274) (argsL := [(.ref r246), (.int p1), (.int p2)]) (rest := [(.ref b274)]) (lenOf own_pd103 rfl) rfl (by show 2 * 0 + _ ≤ _; exact Nat.le_of_eq rfl) (hb hby at_78) (fun _ _ => ⟨rfl, e274, (by decide : 8 + 2 ≤ _), (by decide : 36 + 20 ≤ _)⟩)
      dsimp only [Pt.U, Pt.locs, Pt.cells, Pt.slots] at Y286 Si286 gr286 l286 y286 z286 st286 hQ286
      subst l286 y286 z286
      obtain ⟨X286, hS286, hZ286, hown286⟩ := rebS hS261 (by rw [e274]; exact hk285) Y286 Si286 gr286 hZ261 hown261
      obtain ⟨rfl, N286q, K286, Q286_0, Q286_1, Q286_2, Q286_3⟩ := hQ286
      have f287 := own_staKeepE f275 K286 (allS ⟨_, A274⟩ all0)
      have f288 := f276.keep K286
      have f289 := f277.keep K286 (ninS ne_r241_b274 nin0)
      have f290 := f278.keep K286
      have f291 := f279.keep K286 (ninS ne_r246_b274 nin0)
      have f292 := f280.keep K286
      have f293 := f281.keep K286 (ninS ne_b253_b274 nin0)
      have f294 := f282.keep K286 (ninS ne_b253_b274 nin0)
      have f295 := f283.keep K286 (ninS ne_b253_b274 nin0)
      have f296 := A274.keep K286
      have Z300 := Nat.le_trans Z284 K286.1
      have hk301 := Nat.le_trans hk285 K286.1
      have N302 := Fr.app N273 N286q
      obtain ⟨cq303, kq303, q303a, q303b, q303c⟩ := isOf hZ286 rfl f292
      obtain ⟨v303, _, ⟨T303, L303, k303, n303⟩, -, X303, ⟨Lc303, hQ303, l303, y303, z303⟩, st303⟩ := X286.virtualBack hx (y := (⟨"com/example/edgbaston/edgbaston/source/Location", "isBefore", "(Lcom/example/edgbaston/edgbaston/source/Location;)Z"⟩ : MethodName)) (z := (⟨"com/example/edgbaston/edgbaston/source/Location", "isBefore", "(Lcom/example/edgbaston/edgbaston/source/Location;)Z"⟩ : MethodName)) hown286 (mvT hZ286 (hw _ (List.mem_of_getElem? (i := 51) rfl))) (mvT hZ286 (hw _ (List.mem_of_getElem? (i := 52) rfl))) (notFace_of_selects (args := #[]) (mvT hZ286 (hw _ (List.mem_of_getElem? (i := 54) rfl)))) (mvT hZ286 (hw _ (List.mem_of_getElem? (i := 54) rfl))) (mvT hZ286 (hw _ (List.mem_of_getElem? (i := 53) rfl))) (by decide) (backOf (W := 0) (own_rm9 l Z a0 hw [] b253 b274 p1 p1 p2 p2 T286.heap n0 Z300 f294 Q286_2 f295 Q286_3) hZ286 (hw _ (List.mem_of_getElem? (i := 55) rfl)) (hw _ (List.mem_of_getElem? (i := 28) rfl)) (by decide) (by decide)) q303a q303c (g := (mkF m 87 #[.val (.int p1), .val (.int p2), .val (.int p3), .val (.int p4), .val (.int p5), .val (.int p6), .val (.int p1), .val (.int p2), .val (.ref r241), .val (.ref r246), .val (.ref b253), .val (.ref b274), .unset, .unset, .unset, .unset, .unset, .unset] [(.ref b274), (.ref b253)])) rfl (by rw [hml]; rfl) (Steps.refl _) (argsL := [(.ref b274)]) (rest := []) (lenOf own_pd104 rfl) rfl (by show 2 * 0 + _ ≤ _; exact Nat.le_of_eq rfl) (hb hby at_87) (fun _ _ => ⟨rfl, rfl, (by decide : 10 + 0 ≤ _), (by decide : 56 + 0 ≤ _)⟩)
      dsimp only [Pt.U, Pt.locs, Pt.cells, Pt.slots] at X303 l303 y303 z303 st303 hQ303
      subst l303 y303 z303
      obtain ⟨rfl, N303q, e303⟩ := hQ303
      have N304 := Fr.app N302 N303q
      obtain ⟨cq305, kq305, q305a, q305b, q305c⟩ := isOf hZ286 e303 Q286_0
      obtain ⟨v305, _, ⟨T305, L305, k305, n305⟩, -, X305, ⟨Lc305, hQ305, l305, y305, z305⟩, st305⟩ := X303.virtualBack hx (y := (⟨"com/example/edgbaston/edgbaston/source/Location", "isBefore", "(Lcom/example/edgbaston/edgbaston/source/Location;)Z"⟩ : MethodName)) (z := (⟨"com/example/edgbaston/edgbaston/source/Location", "isBefore", "(Lcom/example/edgbaston/edgbaston/source/Location;)Z"⟩ : MethodName)) hown286 (mvT hZ286 (hw _ (List.mem_of_getElem? (i := 51) rfl))) (mvT hZ286 (hw _ (List.mem_of_getElem? (i := 52) rfl))) (notFace_of_selects (args := #[]) (mvT hZ286 (hw _ (List.mem_of_getElem? (i := 54) rfl)))) (mvT hZ286 (hw _ (List.mem_of_getElem? (i := 54) rfl))) (mvT hZ286 (hw _ (List.mem_of_getElem? (i := 53) rfl))) (by decide) (backOf (W := 0) (own_rm9 l Z a0 hw [] b274 b253 p1 p1 p2 p2 T286.heap n0 Z300 Q286_2 f294 Q286_3 f295) hZ286 (hw _ (List.mem_of_getElem? (i := 55) rfl)) (hw _ (List.mem_of_getElem? (i := 28) rfl)) (by decide) (by decide)) q305a q305c (g := (mkF m 96 #[.val (.int p1), .val (.int p2), .val (.int p3), .val (.int p4), .val (.int p5), .val (.int p6), .val (.int p1), .val (.int p2), .val (.ref r241), .val (.ref r246), .val (.ref b253), .val (.ref b274), .val (.int (own_f9 p1 p1 p2 p2)), .unset, .unset, .unset, .unset, .unset] [(.ref b253), (.ref b274)])) rfl (by rw [hml]; rfl) (Steps.refl _) (argsL := [(.ref b253)]) (rest := []) (lenOf own_pd104 rfl) rfl (by show 2 * 0 + _ ≤ _; exact Nat.le_of_eq rfl) (hb hby at_96) (fun _ _ => ⟨rfl, e303, (by decide : 10 + 0 ≤ _), (by decide : 56 + 0 ≤ _)⟩)
      dsimp only [Pt.U, Pt.locs, Pt.cells, Pt.slots] at X305 l305 y305 z305 st305 hQ305
      subst l305 y305 z305
      obtain ⟨rfl, N305q, e305⟩ := hQ305
      have N306 := Fr.app N304 N305q
      obtain ⟨v307, _, ⟨T307, L307, k307, n307⟩, -, X307, ⟨Lc307, hQ307, l307, y307, z307⟩, st307⟩ := Jvm.LawKit.callS X305 hx (y := (⟨"com/example/edgbaston/edgbaston/source/LocationIsBeforePinLaw", "key", "(II)J"⟩ : MethodName)) hown286 (mvT hZ286 (hw _ (List.mem_of_getElem? (i := 56) rfl))) (mvT hZ286 (hw _ (List.mem_of_getElem? (i := 57) rfl))) (mvT hZ286 (hw _ (List.mem_of_getElem? (i := 58) rfl))) (mvT hZ286 (hw _ (List.mem_of_getElem? (i := 59) rfl))) (by decide) (backOf (W := 0) (own_rm10 l Z a0 hw [] p1 p2 T286.heap n0 Z300) hZ286 (hw _ (List.mem_of_getElem? (i := 59) rfl)) (hw _ (List.mem_of_getElem? (i := 58) rfl)) (by decide) (by decide)) (g := (mkF m 103 #[.val (.int p1), .val (.int p2), .val (.int p3), .val (.int p4), .val (.int p5), .val (.int p6), .val (.int p1), .val (.int p2), .val (.ref r241), .val (.ref r246), .val (.ref b253), .val (.ref b274), .val (.int (own_f9 p1 p1 p2 p2)), .val (.int (own_f9 p1 p1 p2 p2)), .unset, .unset, .unset, .unset] [(.int p2), (.int p1)])) rfl (by rw [hml]; rfl) (argsL := [(.int p1), (.int p2)]) (rest := []) (lenOf own_pd105 rfl) rfl (by show 2 * 0 + _ ≤ _; exact Nat.le_of_eq rfl) (hb hby at_103) (fun _ _ => ⟨rfl, e305, (by decide : 10 + 0 ≤ _), (by decide : 56 + 0 ≤ _)⟩)
      dsimp only [Pt.U, Pt.locs, Pt.cells, Pt.slots] at X307 l307 y307 z307 st307 hQ307
      subst l307 y307 z307
      obtain ⟨rfl, N307q, e307⟩ := hQ307
      have N308 := Fr.app N306 N307q
      obtain ⟨v309, _, ⟨T309, L309, k309, n309⟩, -, X309, ⟨Lc309, hQ309, l309, y309, z309⟩, st309⟩ := Jvm.LawKit.callS X307 hx (y := (⟨"com/example/edgbaston/edgbaston/source/LocationIsBeforePinLaw", "key", "(II)J"⟩ : MethodName)) hown286 (mvT hZ286 (hw _ (List.mem_of_getElem? (i := 56) rfl))) (mvT hZ286 (hw _ (List.mem_of_getElem? (i := 57) rfl))) (mvT hZ286 (hw _ (List.mem_of_getElem? (i := 58) rfl))) (mvT hZ286 (hw _ (List.mem_of_getElem? (i := 59) rfl))) (by decide) (backOf (W := 0) (own_rm10 l Z a0 hw [] p1 p2 T286.heap n0 Z300) hZ286 (hw _ (List.mem_of_getElem? (i := 59) rfl)) (hw _ (List.mem_of_getElem? (i := 58) rfl)) (by decide) (by decide)) (g := (mkF m 112 #[.val (.int p1), .val (.int p2), .val (.int p3), .val (.int p4), .val (.int p5), .val (.int p6), .val (.int p1), .val (.int p2), .val (.ref r241), .val (.ref r246), .val (.ref b253), .val (.ref b274), .val (.int (own_f9 p1 p1 p2 p2)), .val (.int (own_f9 p1 p1 p2 p2)), .val (.long (own_f10 p1 p2)), .second, .unset, .unset] [(.int p2), (.int p1)])) rfl (by rw [hml]; rfl) (argsL := [(.int p1), (.int p2)]) (rest := []) (lenOf own_pd105 rfl) rfl (by show 2 * 0 + _ ≤ _; exact Nat.le_of_eq rfl) (hb hby at_112) (fun _ _ => ⟨rfl, e307, (by decide : 10 + 0 ≤ _), (by decide : 56 + 0 ≤ _)⟩)
      dsimp only [Pt.U, Pt.locs, Pt.cells, Pt.slots] at X309 l309 y309 z309 st309 hQ309
      subst l309 y309 z309
      obtain ⟨rfl, N309q, e309⟩ := hQ309
      have N310 := Fr.app N308 N309q
      have k311 : ∀ t, Steps p.tables e below (T309.setTop (mkF m 124 #[.val (.int p1), .val (.int p2), .val (.int p3), .val (.int p4), .val (.int p5), .val (.int p6), .val (.int p1), .val (.int p2), .val (.ref r241), .val (.ref r246), .val (.ref b253), .val (.ref b274), .val (.int (own_f9 p1 p1 p2 p2)), .val (.int (own_f9 p1 p1 p2 p2)), .val (.long (own_f10 p1 p2)), .second, .val (.long (own_f10 p1 p2)), .second] [(.int (lcmpW (own_f10 p1 p2) (own_f10 p1 p2))), (.int (own_f9 p1 p1 p2 p2))])) t → Steps p.tables e below (s₁.setTop (entryFrame m #[(.int p1), (.int p2), (.int p3), (.int p4), (.int p5), (.int p6)] maxLocals)) t := by
        intro t kt
        refine k161 t ?_
        show Steps p.tables e below (s₁.setTop (mkF m 18 #[.val (.int p1), .val (.int p2), .val (.int p3), .val (.int p4), .val (.int p5), .val (.int p6), .val (.int p1), .unset, .unset, .unset, .unset, .unset, .unset, .unset, .unset, .unset, .unset, .unset] [(.int (p5 &&& (2 : Int32)))])) _
        refine XS.ifNo X0.here hx rfl (hb hby at_18) rfl ((if0 _ _).trans (feq hc21).1) ?_
        show Steps p.tables e below (s₁.setTop (mkF m 21 #[.val (.int p1), .val (.int p2), .val (.int p3), .val (.int p4), .val (.int p5), .val (.int p6), .val (.int p1), .unset, .unset, .unset, .unset, .unset, .unset, .unset, .unset, .unset, .unset, .unset] [])) _
        refine XS.iloadN X0.here hx rfl (hb hby at_21) rfl ?_
        show Steps p.tables e below (s₁.setTop (mkF m 22 #[.val (.int p1), .val (.int p2), .val (.int p3), .val (.int p4), .val (.int p5), .val (.int p6), .val (.int p1), .unset, .unset, .unset, .unset, .unset, .unset, .unset, .unset, .unset, .unset, .unset] [(.int p2)])) _
        refine XS.goto X0.here hx rfl (pc0 := 22) (pc' := 26) rfl (hb hby at_22) (by decide) (by decide) ?_
        show Steps p.tables e below (s₁.setTop (mkF m 26 #[.val (.int p1), .val (.int p2), .val (.int p3), .val (.int p4), .val (.int p5), .val (.int p6), .val (.int p1), .unset, .unset, .unset, .unset, .unset, .unset, .unset, .unset, .unset, .unset, .unset] [(.int p2)])) _
        refine XS.istore X0.here hx rfl (hb hby at_26) rfl (l' := #[.val (.int p1), .val (.int p2), .val (.int p3), .val (.int p4), .val (.int p5), .val (.int p6), .val (.int p1), .val (.int p2), .unset, .unset, .unset, .unset, .unset, .unset, .unset, .unset, .unset, .unset]) rfl ?_
        show Steps p.tables e below (s₁.setTop (mkF m 28 #[.val (.int p1), .val (.int p2), .val (.int p3), .val (.int p4), .val (.int p5), .val (.int p6), .val (.int p1), .val (.int p2), .unset, .unset, .unset, .unset, .unset, .unset, .unset, .unset, .unset, .unset] [])) _
        refine XS.iload X0.here hx rfl (hb hby at_28) rfl ?_
        show Steps p.tables e below (s₁.setTop (mkF m 30 #[.val (.int p1), .val (.int p2), .val (.int p3), .val (.int p4), .val (.int p5), .val (.int p6), .val (.int p1), .val (.int p2), .unset, .unset, .unset, .unset, .unset, .unset, .unset, .unset, .unset, .unset] [(.int p6)])) _
        refine XS.sipush X0.here hx rfl (hb hby at_30) ?_
        show Steps p.tables e below (s₁.setTop (mkF m 33 #[.val (.int p1), .val (.int p2), .val (.int p3), .val (.int p4), .val (.int p5), .val (.int p6), .val (.int p1), .val (.int p2), .unset, .unset, .unset, .unset, .unset, .unset, .unset, .unset, .unset, .unset] [(.int (255 : Int32)), (.int p6)])) _
        refine XS.iand X0.here hx rfl (hb hby at_33) rfl ?_
        show Steps p.tables e below (s₁.setTop (mkF m 34 #[.val (.int p1), .val (.int p2), .val (.int p3), .val (.int p4), .val (.int p5), .val (.int p6), .val (.int p1), .val (.int p2), .unset, .unset, .unset, .unset, .unset, .unset, .unset, .unset, .unset, .unset] [(.int (p6 &&& (255 : Int32)))])) _
        refine XS.i2c X0.here hx rfl (hb hby at_34) rfl ?_
        show Steps p.tables e below (s₁.setTop (mkF m 35 #[.val (.int p1), .val (.int p2), .val (.int p3), .val (.int p4), .val (.int p5), .val (.int p6), .val (.int p1), .val (.int p2), .unset, .unset, .unset, .unset, .unset, .unset, .unset, .unset, .unset, .unset] [(.int ((p6 &&& (255 : Int32)).toUInt32.toUInt16.toUInt32.toInt32))])) _
        refine st241 _ ?_
        show Steps p.tables e below (T241.setTop (mkF m 38 #[.val (.int p1), .val (.int p2), .val (.int p3), .val (.int p4), .val (.int p5), .val (.int p6), .val (.int p1), .val (.int p2), .unset, .unset, .unset, .unset, .unset, .unset, .unset, .unset, .unset, .unset] [(.ref r241)])) _
        refine XS.astore X241.here hx rfl (hb hby at_38) rfl rfl (l' := #[.val (.int p1), .val (.int p2), .val (.int p3), .val (.int p4), .val (.int p5), .val (.int p6), .val (.int p1), .val (.int p2), .val (.ref r241), .unset, .unset, .unset, .unset, .unset, .unset, .unset, .unset, .unset]) rfl ?_
        show Steps p.tables e below (T241.setTop (mkF m 40 #[.val (.int p1), .val (.int p2), .val (.int p3), .val (.int p4), .val (.int p5), .val (.int p6), .val (.int p1), .val (.int p2), .val (.ref r241), .unset, .unset, .unset, .unset, .unset, .unset, .unset, .unset, .unset] [])) _
        refine XS.iload X241.here hx rfl (hb hby at_40) rfl ?_
        show Steps p.tables e below (T241.setTop (mkF m 42 #[.val (.int p1), .val (.int p2), .val (.int p3), .val (.int p4), .val (.int p5), .val (.int p6), .val (.int p1), .val (.int p2), .val (.ref r241), .unset, .unset, .unset, .unset, .unset, .unset, .unset, .unset, .unset] [(.int p6)])) _
        refine XS.bipush X241.here hx rfl (hb hby at_42) ?_
        show Steps p.tables e below (T241.setTop (mkF m 44 #[.val (.int p1), .val (.int p2), .val (.int p3), .val (.int p4), .val (.int p5), .val (.int p6), .val (.int p1), .val (.int p2), .val (.ref r241), .unset, .unset, .unset, .unset, .unset, .unset, .unset, .unset, .unset] [(.int (8 : Int32)), (.int p6)])) _
        refine XS.iushr X241.here hx rfl (hb hby at_44) rfl ?_
        show Steps p.tables e below (T241.setTop (mkF m 45 #[.val (.int p1), .val (.int p2), .val (.int p3), .val (.int p4), .val (.int p5), .val (.int p6), .val (.int p1), .val (.int p2), .val (.ref r241), .unset, .unset, .unset, .unset, .unset, .unset, .unset, .unset, .unset] [(.int ((p6.toUInt32 >>> ((8 : Int32) &&& 31).toUInt32).toInt32))])) _
        refine XS.sipush X241.here hx rfl (hb hby at_45) ?_
        show Steps p.tables e below (T241.setTop (mkF m 48 #[.val (.int p1), .val (.int p2), .val (.int p3), .val (.int p4), .val (.int p5), .val (.int p6), .val (.int p1), .val (.int p2), .val (.ref r241), .unset, .unset, .unset, .unset, .unset, .unset, .unset, .unset, .unset] [(.int (255 : Int32)), (.int ((p6.toUInt32 >>> ((8 : Int32) &&& 31).toUInt32).toInt32))])) _
        refine XS.iand X241.here hx rfl (hb hby at_48) rfl ?_
        show Steps p.tables e below (T241.setTop (mkF m 49 #[.val (.int p1), .val (.int p2), .val (.int p3), .val (.int p4), .val (.int p5), .val (.int p6), .val (.int p1), .val (.int p2), .val (.ref r241), .unset, .unset, .unset, .unset, .unset, .unset, .unset, .unset, .unset] [(.int (((p6.toUInt32 >>> ((8 : Int32) &&& 31).toUInt32).toInt32) &&& (255 : Int32)))])) _
        refine XS.i2c X241.here hx rfl (hb hby at_49) rfl ?_
        show Steps p.tables e below (T241.setTop (mkF m 50 #[.val (.int p1), .val (.int p2), .val (.int p3), .val (.int p4), .val (.int p5), .val (.int p6), .val (.int p1), .val (.int p2), .val (.ref r241), .unset, .unset, .unset, .unset, .unset, .unset, .unset, .unset, .unset] [(.int ((((p6.toUInt32 >>> ((8 : Int32) &&& 31).toUInt32).toInt32) &&& (255 : Int32)).toUInt32.toUInt16.toUInt32.toInt32))])) _
        refine st246 _ ?_
        show Steps p.tables e below (T246.setTop (mkF m 53 #[.val (.int p1), .val (.int p2), .val (.int p3), .val (.int p4), .val (.int p5), .val (.int p6), .val (.int p1), .val (.int p2), .val (.ref r241), .unset, .unset, .unset, .unset, .unset, .unset, .unset, .unset, .unset] [(.ref r246)])) _
        refine XS.astore X246.here hx rfl (hb hby at_53) rfl rfl (l' := #[.val (.int p1), .val (.int p2), .val (.int p3), .val (.int p4), .val (.int p5), .val (.int p6), .val (.int p1), .val (.int p2), .val (.ref r241), .val (.ref r246), .unset, .unset, .unset, .unset, .unset, .unset, .unset, .unset]) rfl ?_
        show Steps p.tables e below (T246.setTop (mkF m 55 #[.val (.int p1), .val (.int p2), .val (.int p3), .val (.int p4), .val (.int p5), .val (.int p6), .val (.int p1), .val (.int p2), .val (.ref r241), .val (.ref r246), .unset, .unset, .unset, .unset, .unset, .unset, .unset, .unset] [])) _
        refine st253 _ ?_
        show Steps p.tables e below (T253.setTop (mkF m 58 #[.val (.int p1), .val (.int p2), .val (.int p3), .val (.int p4), .val (.int p5), .val (.int p6), .val (.int p1), .val (.int p2), .val (.ref r241), .val (.ref r246), .unset, .unset, .unset, .unset, .unset, .unset, .unset, .unset] [(.ref b253)])) _
        refine XS.dup X253.here hx rfl (hb hby at_58) rfl rfl ?_
        show Steps p.tables e below (T253.setTop (mkF m 59 #[.val (.int p1), .val (.int p2), .val (.int p3), .val (.int p4), .val (.int p5), .val (.int p6), .val (.int p1), .val (.int p2), .val (.ref r241), .val (.ref r246), .unset, .unset, .unset, .unset, .unset, .unset, .unset, .unset] [(.ref b253), (.ref b253)])) _
        refine XS.aload X253.here hx rfl (hb hby at_59) rfl rfl ?_
        show Steps p.tables e below (T253.setTop (mkF m 61 #[.val (.int p1), .val (.int p2), .val (.int p3), .val (.int p4), .val (.int p5), .val (.int p6), .val (.int p1), .val (.int p2), .val (.ref r241), .val (.ref r246), .unset, .unset, .unset, .unset, .unset, .unset, .unset, .unset] [(.ref r241), (.ref b253), (.ref b253)])) _
        refine XS.iloadN X253.here hx rfl (hb hby at_61) rfl ?_
        show Steps p.tables e below (T253.setTop (mkF m 62 #[.val (.int p1), .val (.int p2), .val (.int p3), .val (.int p4), .val (.int p5), .val (.int p6), .val (.int p1), .val (.int p2), .val (.ref r241), .val (.ref r246), .unset, .unset, .unset, .unset, .unset, .unset, .unset, .unset] [(.int p1), (.ref r241), (.ref b253), (.ref b253)])) _
        refine XS.iloadN X253.here hx rfl (hb hby at_62) rfl ?_
        show Steps p.tables e below (T253.setTop (mkF m 63 #[.val (.int p1), .val (.int p2), .val (.int p3), .val (.int p4), .val (.int p5), .val (.int p6), .val (.int p1), .val (.int p2), .val (.ref r241), .val (.ref r246), .unset, .unset, .unset, .unset, .unset, .unset, .unset, .unset] [(.int p2), (.int p1), (.ref r241), (.ref b253), (.ref b253)])) _
        refine st261.trans ?_
        show Steps p.tables e below (T261.setTop (mkF m 66 #[.val (.int p1), .val (.int p2), .val (.int p3), .val (.int p4), .val (.int p5), .val (.int p6), .val (.int p1), .val (.int p2), .val (.ref r241), .val (.ref r246), .unset, .unset, .unset, .unset, .unset, .unset, .unset, .unset] [(.ref b253)])) _
        refine XS.astore X261.here hx rfl (hb hby at_66) rfl rfl (l' := #[.val (.int p1), .val (.int p2), .val (.int p3), .val (.int p4), .val (.int p5), .val (.int p6), .val (.int p1), .val (.int p2), .val (.ref r241), .val (.ref r246), .val (.ref b253), .unset, .unset, .unset, .unset, .unset, .unset, .unset]) rfl ?_
        show Steps p.tables e below (T261.setTop (mkF m 68 #[.val (.int p1), .val (.int p2), .val (.int p3), .val (.int p4), .val (.int p5), .val (.int p6), .val (.int p1), .val (.int p2), .val (.ref r241), .val (.ref r246), .val (.ref b253), .unset, .unset, .unset, .unset, .unset, .unset, .unset] [])) _
        refine st274 _ ?_
        show Steps p.tables e below (T274.setTop (mkF m 71 #[.val (.int p1), .val (.int p2), .val (.int p3), .val (.int p4), .val (.int p5), .val (.int p6), .val (.int p1), .val (.int p2), .val (.ref r241), .val (.ref r246), .val (.ref b253), .unset, .unset, .unset, .unset, .unset, .unset, .unset] [(.ref b274)])) _
        refine XS.dup X274.here hx rfl (hb hby at_71) rfl rfl ?_
        show Steps p.tables e below (T274.setTop (mkF m 72 #[.val (.int p1), .val (.int p2), .val (.int p3), .val (.int p4), .val (.int p5), .val (.int p6), .val (.int p1), .val (.int p2), .val (.ref r241), .val (.ref r246), .val (.ref b253), .unset, .unset, .unset, .unset, .unset, .unset, .unset] [(.ref b274), (.ref b274)])) _
        refine XS.aload X274.here hx rfl (hb hby at_72) rfl rfl ?_
        show Steps p.tables e below (T274.setTop (mkF m 74 #[.val (.int p1), .val (.int p2), .val (.int p3), .val (.int p4), .val (.int p5), .val (.int p6), .val (.int p1), .val (.int p2), .val (.ref r241), .val (.ref r246), .val (.ref b253), .unset, .unset, .unset, .unset, .unset, .unset, .unset] [(.ref r246), (.ref b274), (.ref b274)])) _
        refine XS.iload X274.here hx rfl (hb hby at_74) rfl ?_
        show Steps p.tables e below (T274.setTop (mkF m 76 #[.val (.int p1), .val (.int p2), .val (.int p3), .val (.int p4), .val (.int p5), .val (.int p6), .val (.int p1), .val (.int p2), .val (.ref r241), .val (.ref r246), .val (.ref b253), .unset, .unset, .unset, .unset, .unset, .unset, .unset] [(.int p1), (.ref r246), (.ref b274), (.ref b274)])) _
        refine XS.iload X274.here hx rfl (hb hby at_76) rfl ?_
        show Steps p.tables e below (T274.setTop (mkF m 78 #[.val (.int p1), .val (.int p2), .val (.int p3), .val (.int p4), .val (.int p5), .val (.int p6), .val (.int p1), .val (.int p2), .val (.ref r241), .val (.ref r246), .val (.ref b253), .unset, .unset, .unset, .unset, .unset, .unset, .unset] [(.int p2), (.int p1), (.ref r246), (.ref b274), (.ref b274)])) _
        refine st286.trans ?_
        show Steps p.tables e below (T286.setTop (mkF m 81 #[.val (.int p1), .val (.int p2), .val (.int p3), .val (.int p4), .val (.int p5), .val (.int p6), .val (.int p1), .val (.int p2), .val (.ref r241), .val (.ref r246), .val (.ref b253), .unset, .unset, .unset, .unset, .unset, .unset, .unset] [(.ref b274)])) _
        refine XS.astore X286.here hx rfl (hb hby at_81) rfl rfl (l' := #[.val (.int p1), .val (.int p2), .val (.int p3), .val (.int p4), .val (.int p5), .val (.int p6), .val (.int p1), .val (.int p2), .val (.ref r241), .val (.ref r246), .val (.ref b253), .val (.ref b274), .unset, .unset, .unset, .unset, .unset, .unset]) rfl ?_
        show Steps p.tables e below (T286.setTop (mkF m 83 #[.val (.int p1), .val (.int p2), .val (.int p3), .val (.int p4), .val (.int p5), .val (.int p6), .val (.int p1), .val (.int p2), .val (.ref r241), .val (.ref r246), .val (.ref b253), .val (.ref b274), .unset, .unset, .unset, .unset, .unset, .unset] [])) _
        refine XS.aload X286.here hx rfl (hb hby at_83) rfl rfl ?_
        show Steps p.tables e below (T286.setTop (mkF m 85 #[.val (.int p1), .val (.int p2), .val (.int p3), .val (.int p4), .val (.int p5), .val (.int p6), .val (.int p1), .val (.int p2), .val (.ref r241), .val (.ref r246), .val (.ref b253), .val (.ref b274), .unset, .unset, .unset, .unset, .unset, .unset] [(.ref b253)])) _
        refine XS.aload X286.here hx rfl (hb hby at_85) rfl rfl ?_
        show Steps p.tables e below (T286.setTop (mkF m 87 #[.val (.int p1), .val (.int p2), .val (.int p3), .val (.int p4), .val (.int p5), .val (.int p6), .val (.int p1), .val (.int p2), .val (.ref r241), .val (.ref r246), .val (.ref b253), .val (.ref b274), .unset, .unset, .unset, .unset, .unset, .unset] [(.ref b274), (.ref b253)])) _
        refine st303.trans ?_
        show Steps p.tables e below (T303.setTop (mkF m 90 #[.val (.int p1), .val (.int p2), .val (.int p3), .val (.int p4), .val (.int p5), .val (.int p6), .val (.int p1), .val (.int p2), .val (.ref r241), .val (.ref r246), .val (.ref b253), .val (.ref b274), .unset, .unset, .unset, .unset, .unset, .unset] [(.int (own_f9 p1 p1 p2 p2))])) _
        refine XS.istore X303.here hx rfl (hb hby at_90) rfl (l' := #[.val (.int p1), .val (.int p2), .val (.int p3), .val (.int p4), .val (.int p5), .val (.int p6), .val (.int p1), .val (.int p2), .val (.ref r241), .val (.ref r246), .val (.ref b253), .val (.ref b274), .val (.int (own_f9 p1 p1 p2 p2)), .unset, .unset, .unset, .unset, .unset]) rfl ?_
        show Steps p.tables e below (T303.setTop (mkF m 92 #[.val (.int p1), .val (.int p2), .val (.int p3), .val (.int p4), .val (.int p5), .val (.int p6), .val (.int p1), .val (.int p2), .val (.ref r241), .val (.ref r246), .val (.ref b253), .val (.ref b274), .val (.int (own_f9 p1 p1 p2 p2)), .unset, .unset, .unset, .unset, .unset] [])) _
        refine XS.aload X303.here hx rfl (hb hby at_92) rfl rfl ?_
        show Steps p.tables e below (T303.setTop (mkF m 94 #[.val (.int p1), .val (.int p2), .val (.int p3), .val (.int p4), .val (.int p5), .val (.int p6), .val (.int p1), .val (.int p2), .val (.ref r241), .val (.ref r246), .val (.ref b253), .val (.ref b274), .val (.int (own_f9 p1 p1 p2 p2)), .unset, .unset, .unset, .unset, .unset] [(.ref b274)])) _
        refine XS.aload X303.here hx rfl (hb hby at_94) rfl rfl ?_
        show Steps p.tables e below (T303.setTop (mkF m 96 #[.val (.int p1), .val (.int p2), .val (.int p3), .val (.int p4), .val (.int p5), .val (.int p6), .val (.int p1), .val (.int p2), .val (.ref r241), .val (.ref r246), .val (.ref b253), .val (.ref b274), .val (.int (own_f9 p1 p1 p2 p2)), .unset, .unset, .unset, .unset, .unset] [(.ref b253), (.ref b274)])) _
        refine st305.trans ?_
        show Steps p.tables e below (T305.setTop (mkF m 99 #[.val (.int p1), .val (.int p2), .val (.int p3), .val (.int p4), .val (.int p5), .val (.int p6), .val (.int p1), .val (.int p2), .val (.ref r241), .val (.ref r246), .val (.ref b253), .val (.ref b274), .val (.int (own_f9 p1 p1 p2 p2)), .unset, .unset, .unset, .unset, .unset] [(.int (own_f9 p1 p1 p2 p2))])) _
        refine XS.istore X305.here hx rfl (hb hby at_99) rfl (l' := #[.val (.int p1), .val (.int p2), .val (.int p3), .val (.int p4), .val (.int p5), .val (.int p6), .val (.int p1), .val (.int p2), .val (.ref r241), .val (.ref r246), .val (.ref b253), .val (.ref b274), .val (.int (own_f9 p1 p1 p2 p2)), .val (.int (own_f9 p1 p1 p2 p2)), .unset, .unset, .unset, .unset]) rfl ?_
        show Steps p.tables e below (T305.setTop (mkF m 101 #[.val (.int p1), .val (.int p2), .val (.int p3), .val (.int p4), .val (.int p5), .val (.int p6), .val (.int p1), .val (.int p2), .val (.ref r241), .val (.ref r246), .val (.ref b253), .val (.ref b274), .val (.int (own_f9 p1 p1 p2 p2)), .val (.int (own_f9 p1 p1 p2 p2)), .unset, .unset, .unset, .unset] [])) _
        refine XS.iloadN X305.here hx rfl (hb hby at_101) rfl ?_
        show Steps p.tables e below (T305.setTop (mkF m 102 #[.val (.int p1), .val (.int p2), .val (.int p3), .val (.int p4), .val (.int p5), .val (.int p6), .val (.int p1), .val (.int p2), .val (.ref r241), .val (.ref r246), .val (.ref b253), .val (.ref b274), .val (.int (own_f9 p1 p1 p2 p2)), .val (.int (own_f9 p1 p1 p2 p2)), .unset, .unset, .unset, .unset] [(.int p1)])) _
        refine XS.iloadN X305.here hx rfl (hb hby at_102) rfl ?_
        show Steps p.tables e below (T305.setTop (mkF m 103 #[.val (.int p1), .val (.int p2), .val (.int p3), .val (.int p4), .val (.int p5), .val (.int p6), .val (.int p1), .val (.int p2), .val (.ref r241), .val (.ref r246), .val (.ref b253), .val (.ref b274), .val (.int (own_f9 p1 p1 p2 p2)), .val (.int (own_f9 p1 p1 p2 p2)), .unset, .unset, .unset, .unset] [(.int p2), (.int p1)])) _
        refine st307 _ ?_
        show Steps p.tables e below (T307.setTop (mkF m 106 #[.val (.int p1), .val (.int p2), .val (.int p3), .val (.int p4), .val (.int p5), .val (.int p6), .val (.int p1), .val (.int p2), .val (.ref r241), .val (.ref r246), .val (.ref b253), .val (.ref b274), .val (.int (own_f9 p1 p1 p2 p2)), .val (.int (own_f9 p1 p1 p2 p2)), .unset, .unset, .unset, .unset] [(.long (own_f10 p1 p2))])) _
        refine XS.lstore X307.here hx rfl (hb hby at_106) rfl (l' := #[.val (.int p1), .val (.int p2), .val (.int p3), .val (.int p4), .val (.int p5), .val (.int p6), .val (.int p1), .val (.int p2), .val (.ref r241), .val (.ref r246), .val (.ref b253), .val (.ref b274), .val (.int (own_f9 p1 p1 p2 p2)), .val (.int (own_f9 p1 p1 p2 p2)), .val (.long (own_f10 p1 p2)), .second, .unset, .unset]) rfl ?_
        show Steps p.tables e below (T307.setTop (mkF m 108 #[.val (.int p1), .val (.int p2), .val (.int p3), .val (.int p4), .val (.int p5), .val (.int p6), .val (.int p1), .val (.int p2), .val (.ref r241), .val (.ref r246), .val (.ref b253), .val (.ref b274), .val (.int (own_f9 p1 p1 p2 p2)), .val (.int (own_f9 p1 p1 p2 p2)), .val (.long (own_f10 p1 p2)), .second, .unset, .unset] [])) _
        refine XS.iload X307.here hx rfl (hb hby at_108) rfl ?_
        show Steps p.tables e below (T307.setTop (mkF m 110 #[.val (.int p1), .val (.int p2), .val (.int p3), .val (.int p4), .val (.int p5), .val (.int p6), .val (.int p1), .val (.int p2), .val (.ref r241), .val (.ref r246), .val (.ref b253), .val (.ref b274), .val (.int (own_f9 p1 p1 p2 p2)), .val (.int (own_f9 p1 p1 p2 p2)), .val (.long (own_f10 p1 p2)), .second, .unset, .unset] [(.int p1)])) _
        refine XS.iload X307.here hx rfl (hb hby at_110) rfl ?_
        show Steps p.tables e below (T307.setTop (mkF m 112 #[.val (.int p1), .val (.int p2), .val (.int p3), .val (.int p4), .val (.int p5), .val (.int p6), .val (.int p1), .val (.int p2), .val (.ref r241), .val (.ref r246), .val (.ref b253), .val (.ref b274), .val (.int (own_f9 p1 p1 p2 p2)), .val (.int (own_f9 p1 p1 p2 p2)), .val (.long (own_f10 p1 p2)), .second, .unset, .unset] [(.int p2), (.int p1)])) _
        refine st309 _ ?_
        show Steps p.tables e below (T309.setTop (mkF m 115 #[.val (.int p1), .val (.int p2), .val (.int p3), .val (.int p4), .val (.int p5), .val (.int p6), .val (.int p1), .val (.int p2), .val (.ref r241), .val (.ref r246), .val (.ref b253), .val (.ref b274), .val (.int (own_f9 p1 p1 p2 p2)), .val (.int (own_f9 p1 p1 p2 p2)), .val (.long (own_f10 p1 p2)), .second, .unset, .unset] [(.long (own_f10 p1 p2))])) _
        refine XS.lstore X309.here hx rfl (hb hby at_115) rfl (l' := #[.val (.int p1), .val (.int p2), .val (.int p3), .val (.int p4), .val (.int p5), .val (.int p6), .val (.int p1), .val (.int p2), .val (.ref r241), .val (.ref r246), .val (.ref b253), .val (.ref b274), .val (.int (own_f9 p1 p1 p2 p2)), .val (.int (own_f9 p1 p1 p2 p2)), .val (.long (own_f10 p1 p2)), .second, .val (.long (own_f10 p1 p2)), .second]) rfl ?_
        show Steps p.tables e below (T309.setTop (mkF m 117 #[.val (.int p1), .val (.int p2), .val (.int p3), .val (.int p4), .val (.int p5), .val (.int p6), .val (.int p1), .val (.int p2), .val (.ref r241), .val (.ref r246), .val (.ref b253), .val (.ref b274), .val (.int (own_f9 p1 p1 p2 p2)), .val (.int (own_f9 p1 p1 p2 p2)), .val (.long (own_f10 p1 p2)), .second, .val (.long (own_f10 p1 p2)), .second] [])) _
        refine XS.iload X309.here hx rfl (hb hby at_117) rfl ?_
        show Steps p.tables e below (T309.setTop (mkF m 119 #[.val (.int p1), .val (.int p2), .val (.int p3), .val (.int p4), .val (.int p5), .val (.int p6), .val (.int p1), .val (.int p2), .val (.ref r241), .val (.ref r246), .val (.ref b253), .val (.ref b274), .val (.int (own_f9 p1 p1 p2 p2)), .val (.int (own_f9 p1 p1 p2 p2)), .val (.long (own_f10 p1 p2)), .second, .val (.long (own_f10 p1 p2)), .second] [(.int (own_f9 p1 p1 p2 p2))])) _
        refine XS.lload X309.here hx rfl (hb hby at_119) rfl ?_
        show Steps p.tables e below (T309.setTop (mkF m 121 #[.val (.int p1), .val (.int p2), .val (.int p3), .val (.int p4), .val (.int p5), .val (.int p6), .val (.int p1), .val (.int p2), .val (.ref r241), .val (.ref r246), .val (.ref b253), .val (.ref b274), .val (.int (own_f9 p1 p1 p2 p2)), .val (.int (own_f9 p1 p1 p2 p2)), .val (.long (own_f10 p1 p2)), .second, .val (.long (own_f10 p1 p2)), .second] [(.long (own_f10 p1 p2)), (.int (own_f9 p1 p1 p2 p2))])) _
        refine XS.lload X309.here hx rfl (hb hby at_121) rfl ?_
        show Steps p.tables e below (T309.setTop (mkF m 123 #[.val (.int p1), .val (.int p2), .val (.int p3), .val (.int p4), .val (.int p5), .val (.int p6), .val (.int p1), .val (.int p2), .val (.ref r241), .val (.ref r246), .val (.ref b253), .val (.ref b274), .val (.int (own_f9 p1 p1 p2 p2)), .val (.int (own_f9 p1 p1 p2 p2)), .val (.long (own_f10 p1 p2)), .second, .val (.long (own_f10 p1 p2)), .second] [(.long (own_f10 p1 p2)), (.long (own_f10 p1 p2)), (.int (own_f9 p1 p1 p2 p2))])) _
        refine XS.lcmp X309.here hx rfl (hb hby at_123) rfl ?_
        exact kt
      by_cases hc31 : (lcmpW (own_f10 p1 p2) (own_f10 p1 p2)) < (0 : Int32)
      ·
        have k312 : ∀ t, Steps p.tables e below (T309.setTop (mkF m 132 #[.val (.int p1), .val (.int p2), .val (.int p3), .val (.int p4), .val (.int p5), .val (.int p6), .val (.int p1), .val (.int p2), .val (.ref r241), .val (.ref r246), .val (.ref b253), .val (.ref b274), .val (.int (own_f9 p1 p1 p2 p2)), .val (.int (own_f9 p1 p1 p2 p2)), .val (.long (own_f10 p1 p2)), .second, .val (.long (own_f10 p1 p2)), .second] [(.int (1 : Int32)), (.int (own_f9 p1 p1 p2 p2))])) t → Steps p.tables e below (s₁.setTop (entryFrame m #[(.int p1), (.int p2), (.int p3), (.int p4), (.int p5), (.int p6)] maxLocals)) t := by
          intro t kt
          refine k311 t ?_
          show Steps p.tables e below (T309.setTop (mkF m 124 #[.val (.int p1), .val (.int p2), .val (.int p3), .val (.int p4), .val (.int p5), .val (.int p6), .val (.int p1), .val (.int p2), .val (.ref r241), .val (.ref r246), .val (.ref b253), .val (.ref b274), .val (.int (own_f9 p1 p1 p2 p2)), .val (.int (own_f9 p1 p1 p2 p2)), .val (.long (own_f10 p1 p2)), .second, .val (.long (own_f10 p1 p2)), .second] [(.int (lcmpW (own_f10 p1 p2) (own_f10 p1 p2))), (.int (own_f9 p1 p1 p2 p2))])) _
          refine XS.ifNo X309.here hx rfl (hb hby at_124) rfl ((if0 _ _).trans (tlt hc31).2.1) ?_
          show Steps p.tables e below (T309.setTop (mkF m 127 #[.val (.int p1), .val (.int p2), .val (.int p3), .val (.int p4), .val (.int p5), .val (.int p6), .val (.int p1), .val (.int p2), .val (.ref r241), .val (.ref r246), .val (.ref b253), .val (.ref b274), .val (.int (own_f9 p1 p1 p2 p2)), .val (.int (own_f9 p1 p1 p2 p2)), .val (.long (own_f10 p1 p2)), .second, .val (.long (own_f10 p1 p2)), .second] [(.int (own_f9 p1 p1 p2 p2))])) _
          refine XS.iconst X309.here hx rfl (hb hby at_127) ?_
          show Steps p.tables e below (T309.setTop (mkF m 128 #[.val (.int p1), .val (.int p2), .val (.int p3), .val (.int p4), .val (.int p5), .val (.int p6), .val (.int p1), .val (.int p2), .val (.ref r241), .val (.ref r246), .val (.ref b253), .val (.ref b274), .val (.int (own_f9 p1 p1 p2 p2)), .val (.int (own_f9 p1 p1 p2 p2)), .val (.long (own_f10 p1 p2)), .second, .val (.long (own_f10 p1 p2)), .second] [(.int (1 : Int32)), (.int (own_f9 p1 p1 p2 p2))])) _
          refine XS.goto X309.here hx rfl (pc0 := 128) (pc' := 132) rfl (hb hby at_128) (by decide) (by decide) ?_
          exact kt
        by_cases hc32 : (own_f9 p1 p1 p2 p2) = (1 : Int32)
        ·
          obtain ⟨fs, hr, hrun, hended, hE⟩ := Stand.leaveW (s := s) (vm₁ := T286.vm) X309 hS286 (by rw [e309]; exact (Nat.le_refl _)) (hlocks := hlk) (v := some (.int (1 : Int32))) (fun h => by rw [Bd.returns] at h; cases h)
          refine ⟨_, _, k312 _ ?_, hrun, hended, _, _, rfl, ?_, hE.1, hE.2.1, hE.2.2.1, hE.2.2.2.mono (by decide) (by decide)⟩
          · show Steps p.tables e below (T309.setTop (mkF m 132 #[.val (.int p1), .val (.int p2), .val (.int p3), .val (.int p4), .val (.int p5), .val (.int p6), .val (.int p1), .val (.int p2), .val (.ref r241), .val (.ref r246), .val (.ref b253), .val (.ref b274), .val (.int (own_f9 p1 p1 p2 p2)), .val (.int (own_f9 p1 p1 p2 p2)), .val (.long (own_f10 p1 p2)), .second, .val (.long (own_f10 p1 p2)), .second] [(.int (1 : Int32)), (.int (own_f9 p1 p1 p2 p2))])) _
            refine XS.icmpNo X309.here hx rfl (hb hby at_132) rfl (teq hc32).2 ?_
            show Steps p.tables e below (T309.setTop (mkF m 135 #[.val (.int p1), .val (.int p2), .val (.int p3), .val (.int p4), .val (.int p5), .val (.int p6), .val (.int p1), .val (.int p2), .val (.ref r241), .val (.ref r246), .val (.ref b253), .val (.ref b274), .val (.int (own_f9 p1 p1 p2 p2)), .val (.int (own_f9 p1 p1 p2 p2)), .val (.long (own_f10 p1 p2)), .second, .val (.long (own_f10 p1 p2)), .second] [])) _
            refine XS.iload X309.here hx rfl (hb hby at_135) rfl ?_
            show Steps p.tables e below (T309.setTop (mkF m 137 #[.val (.int p1), .val (.int p2), .val (.int p3), .val (.int p4), .val (.int p5), .val (.int p6), .val (.int p1), .val (.int p2), .val (.ref r241), .val (.ref r246), .val (.ref b253), .val (.ref b274), .val (.int (own_f9 p1 p1 p2 p2)), .val (.int (own_f9 p1 p1 p2 p2)), .val (.long (own_f10 p1 p2)), .second, .val (.long (own_f10 p1 p2)), .second] [(.int (own_f9 p1 p1 p2 p2))])) _
            refine XS.lload X309.here hx rfl (hb hby at_137) rfl ?_
            show Steps p.tables e below (T309.setTop (mkF m 139 #[.val (.int p1), .val (.int p2), .val (.int p3), .val (.int p4), .val (.int p5), .val (.int p6), .val (.int p1), .val (.int p2), .val (.ref r241), .val (.ref r246), .val (.ref b253), .val (.ref b274), .val (.int (own_f9 p1 p1 p2 p2)), .val (.int (own_f9 p1 p1 p2 p2)), .val (.long (own_f10 p1 p2)), .second, .val (.long (own_f10 p1 p2)), .second] [(.long (own_f10 p1 p2)), (.int (own_f9 p1 p1 p2 p2))])) _
            refine XS.lload X309.here hx rfl (hb hby at_139) rfl ?_
            show Steps p.tables e below (T309.setTop (mkF m 141 #[.val (.int p1), .val (.int p2), .val (.int p3), .val (.int p4), .val (.int p5), .val (.int p6), .val (.int p1), .val (.int p2), .val (.ref r241), .val (.ref r246), .val (.ref b253), .val (.ref b274), .val (.int (own_f9 p1 p1 p2 p2)), .val (.int (own_f9 p1 p1 p2 p2)), .val (.long (own_f10 p1 p2)), .second, .val (.long (own_f10 p1 p2)), .second] [(.long (own_f10 p1 p2)), (.long (own_f10 p1 p2)), (.int (own_f9 p1 p1 p2 p2))])) _
            refine XS.lcmp X309.here hx rfl (hb hby at_141) rfl ?_
            show Steps p.tables e below (T309.setTop (mkF m 142 #[.val (.int p1), .val (.int p2), .val (.int p3), .val (.int p4), .val (.int p5), .val (.int p6), .val (.int p1), .val (.int p2), .val (.ref r241), .val (.ref r246), .val (.ref b253), .val (.ref b274), .val (.int (own_f9 p1 p1 p2 p2)), .val (.int (own_f9 p1 p1 p2 p2)), .val (.long (own_f10 p1 p2)), .second, .val (.long (own_f10 p1 p2)), .second] [(.int (lcmpW (own_f10 p1 p2) (own_f10 p1 p2))), (.int (own_f9 p1 p1 p2 p2))])) _
            refine XS.ifNo X309.here hx rfl (hb hby at_142) rfl ((if0 _ _).trans (tlt hc31).2.1) ?_
            show Steps p.tables e below (T309.setTop (mkF m 145 #[.val (.int p1), .val (.int p2), .val (.int p3), .val (.int p4), .val (.int p5), .val (.int p6), .val (.int p1), .val (.int p2), .val (.ref r241), .val (.ref r246), .val (.ref b253), .val (.ref b274), .val (.int (own_f9 p1 p1 p2 p2)), .val (.int (own_f9 p1 p1 p2 p2)), .val (.long (own_f10 p1 p2)), .second, .val (.long (own_f10 p1 p2)), .second] [(.int (own_f9 p1 p1 p2 p2))])) _
            refine XS.iconst X309.here hx rfl (hb hby at_145) ?_
            show Steps p.tables e below (T309.setTop (mkF m 146 #[.val (.int p1), .val (.int p2), .val (.int p3), .val (.int p4), .val (.int p5), .val (.int p6), .val (.int p1), .val (.int p2), .val (.ref r241), .val (.ref r246), .val (.ref b253), .val (.ref b274), .val (.int (own_f9 p1 p1 p2 p2)), .val (.int (own_f9 p1 p1 p2 p2)), .val (.long (own_f10 p1 p2)), .second, .val (.long (own_f10 p1 p2)), .second] [(.int (1 : Int32)), (.int (own_f9 p1 p1 p2 p2))])) _
            refine XS.goto X309.here hx rfl (pc0 := 146) (pc' := 150) rfl (hb hby at_146) (by decide) (by decide) ?_
            show Steps p.tables e below (T309.setTop (mkF m 150 #[.val (.int p1), .val (.int p2), .val (.int p3), .val (.int p4), .val (.int p5), .val (.int p6), .val (.int p1), .val (.int p2), .val (.ref r241), .val (.ref r246), .val (.ref b253), .val (.ref b274), .val (.int (own_f9 p1 p1 p2 p2)), .val (.int (own_f9 p1 p1 p2 p2)), .val (.long (own_f10 p1 p2)), .second, .val (.long (own_f10 p1 p2)), .second] [(.int (1 : Int32)), (.int (own_f9 p1 p1 p2 p2))])) _
            refine XS.icmpNo X309.here hx rfl (hb hby at_150) rfl (teq hc32).2 ?_
            show Steps p.tables e below (T309.setTop (mkF m 153 #[.val (.int p1), .val (.int p2), .val (.int p3), .val (.int p4), .val (.int p5), .val (.int p6), .val (.int p1), .val (.int p2), .val (.ref r241), .val (.ref r246), .val (.ref b253), .val (.ref b274), .val (.int (own_f9 p1 p1 p2 p2)), .val (.int (own_f9 p1 p1 p2 p2)), .val (.long (own_f10 p1 p2)), .second, .val (.long (own_f10 p1 p2)), .second] [])) _
            refine XS.iconst X309.here hx rfl (hb hby at_153) ?_
            show Steps p.tables e below (T309.setTop (mkF m 154 #[.val (.int p1), .val (.int p2), .val (.int p3), .val (.int p4), .val (.int p5), .val (.int p6), .val (.int p1), .val (.int p2), .val (.ref r241), .val (.ref r246), .val (.ref b253), .val (.ref b274), .val (.int (own_f9 p1 p1 p2 p2)), .val (.int (own_f9 p1 p1 p2 p2)), .val (.long (own_f10 p1 p2)), .second, .val (.long (own_f10 p1 p2)), .second] [(.int (1 : Int32))])) _
            refine XS.goto X309.here hx rfl (pc0 := 154) (pc' := 158) rfl (hb hby at_154) (by decide) (by decide) ?_
            show Steps p.tables e below (T309.setTop (mkF m 158 #[.val (.int p1), .val (.int p2), .val (.int p3), .val (.int p4), .val (.int p5), .val (.int p6), .val (.int p1), .val (.int p2), .val (.ref r241), .val (.ref r246), .val (.ref b253), .val (.ref b274), .val (.int (own_f9 p1 p1 p2 p2)), .val (.int (own_f9 p1 p1 p2 p2)), .val (.long (own_f10 p1 p2)), .second, .val (.long (own_f10 p1 p2)), .second] [(.int (1 : Int32))])) _
            exact retN X309 hx (t := .boolean) Bd.returns (by simp) (hb hby at_158) hr
          · show own_Q0 Z p1 p2 p3 p4 p5 p6 w_COMPACT_STRINGS h0 n0 _ T309.heap _
            rw [e309]
            exact ⟨(by rw [own_f0, if_neg hc1, if_neg hc21, if_pos hc31, if_pos hc32]), N310⟩
        ·
          obtain ⟨fs, hr, hrun, hended, hE⟩ := Stand.leaveW (s := s) (vm₁ := T286.vm) X309 hS286 (by rw [e309]; exact (Nat.le_refl _)) (hlocks := hlk) (v := some (.int (0 : Int32))) (fun h => by rw [Bd.returns] at h; cases h)
          refine ⟨_, _, k312 _ ?_, hrun, hended, _, _, rfl, ?_, hE.1, hE.2.1, hE.2.2.1, hE.2.2.2.mono (by decide) (by decide)⟩
          · show Steps p.tables e below (T309.setTop (mkF m 132 #[.val (.int p1), .val (.int p2), .val (.int p3), .val (.int p4), .val (.int p5), .val (.int p6), .val (.int p1), .val (.int p2), .val (.ref r241), .val (.ref r246), .val (.ref b253), .val (.ref b274), .val (.int (own_f9 p1 p1 p2 p2)), .val (.int (own_f9 p1 p1 p2 p2)), .val (.long (own_f10 p1 p2)), .second, .val (.long (own_f10 p1 p2)), .second] [(.int (1 : Int32)), (.int (own_f9 p1 p1 p2 p2))])) _
            refine XS.icmpYes X309.here hx rfl (pc0 := 132) (pc' := 157) rfl (hb hby at_132) rfl (feq hc32).2 (by decide) (by decide) ?_
            show Steps p.tables e below (T309.setTop (mkF m 157 #[.val (.int p1), .val (.int p2), .val (.int p3), .val (.int p4), .val (.int p5), .val (.int p6), .val (.int p1), .val (.int p2), .val (.ref r241), .val (.ref r246), .val (.ref b253), .val (.ref b274), .val (.int (own_f9 p1 p1 p2 p2)), .val (.int (own_f9 p1 p1 p2 p2)), .val (.long (own_f10 p1 p2)), .second, .val (.long (own_f10 p1 p2)), .second] [])) _
            refine XS.iconst X309.here hx rfl (hb hby at_157) ?_
            show Steps p.tables e below (T309.setTop (mkF m 158 #[.val (.int p1), .val (.int p2), .val (.int p3), .val (.int p4), .val (.int p5), .val (.int p6), .val (.int p1), .val (.int p2), .val (.ref r241), .val (.ref r246), .val (.ref b253), .val (.ref b274), .val (.int (own_f9 p1 p1 p2 p2)), .val (.int (own_f9 p1 p1 p2 p2)), .val (.long (own_f10 p1 p2)), .second, .val (.long (own_f10 p1 p2)), .second] [(.int (0 : Int32))])) _
            exact retN X309 hx (t := .boolean) Bd.returns (by simp) (hb hby at_158) hr
          · show own_Q0 Z p1 p2 p3 p4 p5 p6 w_COMPACT_STRINGS h0 n0 _ T309.heap _
            rw [e309]
            exact ⟨(by rw [own_f0, if_neg hc1, if_neg hc21, if_pos hc31, if_neg hc32]), N310⟩
      ·
        have k313 : ∀ t, Steps p.tables e below (T309.setTop (mkF m 132 #[.val (.int p1), .val (.int p2), .val (.int p3), .val (.int p4), .val (.int p5), .val (.int p6), .val (.int p1), .val (.int p2), .val (.ref r241), .val (.ref r246), .val (.ref b253), .val (.ref b274), .val (.int (own_f9 p1 p1 p2 p2)), .val (.int (own_f9 p1 p1 p2 p2)), .val (.long (own_f10 p1 p2)), .second, .val (.long (own_f10 p1 p2)), .second] [(.int (0 : Int32)), (.int (own_f9 p1 p1 p2 p2))])) t → Steps p.tables e below (s₁.setTop (entryFrame m #[(.int p1), (.int p2), (.int p3), (.int p4), (.int p5), (.int p6)] maxLocals)) t := by
          intro t kt
          refine k311 t ?_
          show Steps p.tables e below (T309.setTop (mkF m 124 #[.val (.int p1), .val (.int p2), .val (.int p3), .val (.int p4), .val (.int p5), .val (.int p6), .val (.int p1), .val (.int p2), .val (.ref r241), .val (.ref r246), .val (.ref b253), .val (.ref b274), .val (.int (own_f9 p1 p1 p2 p2)), .val (.int (own_f9 p1 p1 p2 p2)), .val (.long (own_f10 p1 p2)), .second, .val (.long (own_f10 p1 p2)), .second] [(.int (lcmpW (own_f10 p1 p2) (own_f10 p1 p2))), (.int (own_f9 p1 p1 p2 p2))])) _
          refine XS.ifYes X309.here hx rfl (pc0 := 124) (pc' := 131) rfl (hb hby at_124) rfl ((if0 _ _).trans (flt hc31).2.1) (by decide) (by decide) ?_
          show Steps p.tables e below (T309.setTop (mkF m 131 #[.val (.int p1), .val (.int p2), .val (.int p3), .val (.int p4), .val (.int p5), .val (.int p6), .val (.int p1), .val (.int p2), .val (.ref r241), .val (.ref r246), .val (.ref b253), .val (.ref b274), .val (.int (own_f9 p1 p1 p2 p2)), .val (.int (own_f9 p1 p1 p2 p2)), .val (.long (own_f10 p1 p2)), .second, .val (.long (own_f10 p1 p2)), .second] [(.int (own_f9 p1 p1 p2 p2))])) _
          refine XS.iconst X309.here hx rfl (hb hby at_131) ?_
          exact kt
        by_cases hc33 : (own_f9 p1 p1 p2 p2) = (0 : Int32)
        ·
          obtain ⟨fs, hr, hrun, hended, hE⟩ := Stand.leaveW (s := s) (vm₁ := T286.vm) X309 hS286 (by rw [e309]; exact (Nat.le_refl _)) (hlocks := hlk) (v := some (.int (1 : Int32))) (fun h => by rw [Bd.returns] at h; cases h)
          refine ⟨_, _, k313 _ ?_, hrun, hended, _, _, rfl, ?_, hE.1, hE.2.1, hE.2.2.1, hE.2.2.2.mono (by decide) (by decide)⟩
          · show Steps p.tables e below (T309.setTop (mkF m 132 #[.val (.int p1), .val (.int p2), .val (.int p3), .val (.int p4), .val (.int p5), .val (.int p6), .val (.int p1), .val (.int p2), .val (.ref r241), .val (.ref r246), .val (.ref b253), .val (.ref b274), .val (.int (own_f9 p1 p1 p2 p2)), .val (.int (own_f9 p1 p1 p2 p2)), .val (.long (own_f10 p1 p2)), .second, .val (.long (own_f10 p1 p2)), .second] [(.int (0 : Int32)), (.int (own_f9 p1 p1 p2 p2))])) _
            refine XS.icmpNo X309.here hx rfl (hb hby at_132) rfl (teq hc33).2 ?_
            show Steps p.tables e below (T309.setTop (mkF m 135 #[.val (.int p1), .val (.int p2), .val (.int p3), .val (.int p4), .val (.int p5), .val (.int p6), .val (.int p1), .val (.int p2), .val (.ref r241), .val (.ref r246), .val (.ref b253), .val (.ref b274), .val (.int (own_f9 p1 p1 p2 p2)), .val (.int (own_f9 p1 p1 p2 p2)), .val (.long (own_f10 p1 p2)), .second, .val (.long (own_f10 p1 p2)), .second] [])) _
            refine XS.iload X309.here hx rfl (hb hby at_135) rfl ?_
            show Steps p.tables e below (T309.setTop (mkF m 137 #[.val (.int p1), .val (.int p2), .val (.int p3), .val (.int p4), .val (.int p5), .val (.int p6), .val (.int p1), .val (.int p2), .val (.ref r241), .val (.ref r246), .val (.ref b253), .val (.ref b274), .val (.int (own_f9 p1 p1 p2 p2)), .val (.int (own_f9 p1 p1 p2 p2)), .val (.long (own_f10 p1 p2)), .second, .val (.long (own_f10 p1 p2)), .second] [(.int (own_f9 p1 p1 p2 p2))])) _
            refine XS.lload X309.here hx rfl (hb hby at_137) rfl ?_
            show Steps p.tables e below (T309.setTop (mkF m 139 #[.val (.int p1), .val (.int p2), .val (.int p3), .val (.int p4), .val (.int p5), .val (.int p6), .val (.int p1), .val (.int p2), .val (.ref r241), .val (.ref r246), .val (.ref b253), .val (.ref b274), .val (.int (own_f9 p1 p1 p2 p2)), .val (.int (own_f9 p1 p1 p2 p2)), .val (.long (own_f10 p1 p2)), .second, .val (.long (own_f10 p1 p2)), .second] [(.long (own_f10 p1 p2)), (.int (own_f9 p1 p1 p2 p2))])) _
            refine XS.lload X309.here hx rfl (hb hby at_139) rfl ?_
            show Steps p.tables e below (T309.setTop (mkF m 141 #[.val (.int p1), .val (.int p2), .val (.int p3), .val (.int p4), .val (.int p5), .val (.int p6), .val (.int p1), .val (.int p2), .val (.ref r241), .val (.ref r246), .val (.ref b253), .val (.ref b274), .val (.int (own_f9 p1 p1 p2 p2)), .val (.int (own_f9 p1 p1 p2 p2)), .val (.long (own_f10 p1 p2)), .second, .val (.long (own_f10 p1 p2)), .second] [(.long (own_f10 p1 p2)), (.long (own_f10 p1 p2)), (.int (own_f9 p1 p1 p2 p2))])) _
            refine XS.lcmp X309.here hx rfl (hb hby at_141) rfl ?_
            show Steps p.tables e below (T309.setTop (mkF m 142 #[.val (.int p1), .val (.int p2), .val (.int p3), .val (.int p4), .val (.int p5), .val (.int p6), .val (.int p1), .val (.int p2), .val (.ref r241), .val (.ref r246), .val (.ref b253), .val (.ref b274), .val (.int (own_f9 p1 p1 p2 p2)), .val (.int (own_f9 p1 p1 p2 p2)), .val (.long (own_f10 p1 p2)), .second, .val (.long (own_f10 p1 p2)), .second] [(.int (lcmpW (own_f10 p1 p2) (own_f10 p1 p2))), (.int (own_f9 p1 p1 p2 p2))])) _
            refine XS.ifYes X309.here hx rfl (pc0 := 142) (pc' := 149) rfl (hb hby at_142) rfl ((if0 _ _).trans (flt hc31).2.1) (by decide) (by decide) ?_
            show Steps p.tables e below (T309.setTop (mkF m 149 #[.val (.int p1), .val (.int p2), .val (.int p3), .val (.int p4), .val (.int p5), .val (.int p6), .val (.int p1), .val (.int p2), .val (.ref r241), .val (.ref r246), .val (.ref b253), .val (.ref b274), .val (.int (own_f9 p1 p1 p2 p2)), .val (.int (own_f9 p1 p1 p2 p2)), .val (.long (own_f10 p1 p2)), .second, .val (.long (own_f10 p1 p2)), .second] [(.int (own_f9 p1 p1 p2 p2))])) _
            refine XS.iconst X309.here hx rfl (hb hby at_149) ?_
            show Steps p.tables e below (T309.setTop (mkF m 150 #[.val (.int p1), .val (.int p2), .val (.int p3), .val (.int p4), .val (.int p5), .val (.int p6), .val (.int p1), .val (.int p2), .val (.ref r241), .val (.ref r246), .val (.ref b253), .val (.ref b274), .val (.int (own_f9 p1 p1 p2 p2)), .val (.int (own_f9 p1 p1 p2 p2)), .val (.long (own_f10 p1 p2)), .second, .val (.long (own_f10 p1 p2)), .second] [(.int (0 : Int32)), (.int (own_f9 p1 p1 p2 p2))])) _
            refine XS.icmpNo X309.here hx rfl (hb hby at_150) rfl (teq hc33).2 ?_
            show Steps p.tables e below (T309.setTop (mkF m 153 #[.val (.int p1), .val (.int p2), .val (.int p3), .val (.int p4), .val (.int p5), .val (.int p6), .val (.int p1), .val (.int p2), .val (.ref r241), .val (.ref r246), .val (.ref b253), .val (.ref b274), .val (.int (own_f9 p1 p1 p2 p2)), .val (.int (own_f9 p1 p1 p2 p2)), .val (.long (own_f10 p1 p2)), .second, .val (.long (own_f10 p1 p2)), .second] [])) _
            refine XS.iconst X309.here hx rfl (hb hby at_153) ?_
            show Steps p.tables e below (T309.setTop (mkF m 154 #[.val (.int p1), .val (.int p2), .val (.int p3), .val (.int p4), .val (.int p5), .val (.int p6), .val (.int p1), .val (.int p2), .val (.ref r241), .val (.ref r246), .val (.ref b253), .val (.ref b274), .val (.int (own_f9 p1 p1 p2 p2)), .val (.int (own_f9 p1 p1 p2 p2)), .val (.long (own_f10 p1 p2)), .second, .val (.long (own_f10 p1 p2)), .second] [(.int (1 : Int32))])) _
            refine XS.goto X309.here hx rfl (pc0 := 154) (pc' := 158) rfl (hb hby at_154) (by decide) (by decide) ?_
            show Steps p.tables e below (T309.setTop (mkF m 158 #[.val (.int p1), .val (.int p2), .val (.int p3), .val (.int p4), .val (.int p5), .val (.int p6), .val (.int p1), .val (.int p2), .val (.ref r241), .val (.ref r246), .val (.ref b253), .val (.ref b274), .val (.int (own_f9 p1 p1 p2 p2)), .val (.int (own_f9 p1 p1 p2 p2)), .val (.long (own_f10 p1 p2)), .second, .val (.long (own_f10 p1 p2)), .second] [(.int (1 : Int32))])) _
            exact retN X309 hx (t := .boolean) Bd.returns (by simp) (hb hby at_158) hr
          · show own_Q0 Z p1 p2 p3 p4 p5 p6 w_COMPACT_STRINGS h0 n0 _ T309.heap _
            rw [e309]
            exact ⟨(by rw [own_f0, if_neg hc1, if_neg hc21, if_neg hc31, if_pos hc33]), N310⟩
        ·
          obtain ⟨fs, hr, hrun, hended, hE⟩ := Stand.leaveW (s := s) (vm₁ := T286.vm) X309 hS286 (by rw [e309]; exact (Nat.le_refl _)) (hlocks := hlk) (v := some (.int (0 : Int32))) (fun h => by rw [Bd.returns] at h; cases h)
          refine ⟨_, _, k313 _ ?_, hrun, hended, _, _, rfl, ?_, hE.1, hE.2.1, hE.2.2.1, hE.2.2.2.mono (by decide) (by decide)⟩
          · show Steps p.tables e below (T309.setTop (mkF m 132 #[.val (.int p1), .val (.int p2), .val (.int p3), .val (.int p4), .val (.int p5), .val (.int p6), .val (.int p1), .val (.int p2), .val (.ref r241), .val (.ref r246), .val (.ref b253), .val (.ref b274), .val (.int (own_f9 p1 p1 p2 p2)), .val (.int (own_f9 p1 p1 p2 p2)), .val (.long (own_f10 p1 p2)), .second, .val (.long (own_f10 p1 p2)), .second] [(.int (0 : Int32)), (.int (own_f9 p1 p1 p2 p2))])) _
            refine XS.icmpYes X309.here hx rfl (pc0 := 132) (pc' := 157) rfl (hb hby at_132) rfl (feq hc33).2 (by decide) (by decide) ?_
            show Steps p.tables e below (T309.setTop (mkF m 157 #[.val (.int p1), .val (.int p2), .val (.int p3), .val (.int p4), .val (.int p5), .val (.int p6), .val (.int p1), .val (.int p2), .val (.ref r241), .val (.ref r246), .val (.ref b253), .val (.ref b274), .val (.int (own_f9 p1 p1 p2 p2)), .val (.int (own_f9 p1 p1 p2 p2)), .val (.long (own_f10 p1 p2)), .second, .val (.long (own_f10 p1 p2)), .second] [])) _
            refine XS.iconst X309.here hx rfl (hb hby at_157) ?_
            show Steps p.tables e below (T309.setTop (mkF m 158 #[.val (.int p1), .val (.int p2), .val (.int p3), .val (.int p4), .val (.int p5), .val (.int p6), .val (.int p1), .val (.int p2), .val (.ref r241), .val (.ref r246), .val (.ref b253), .val (.ref b274), .val (.int (own_f9 p1 p1 p2 p2)), .val (.int (own_f9 p1 p1 p2 p2)), .val (.long (own_f10 p1 p2)), .second, .val (.long (own_f10 p1 p2)), .second] [(.int (0 : Int32))])) _
            exact retN X309 hx (t := .boolean) Bd.returns (by simp) (hb hby at_158) hr
          · show own_Q0 Z p1 p2 p3 p4 p5 p6 w_COMPACT_STRINGS h0 n0 _ T309.heap _
            rw [e309]
            exact ⟨(by rw [own_f0, if_neg hc1, if_neg hc21, if_neg hc31, if_neg hc33]), N310⟩
theorem own_key10 (l c : Int32) : (own_f10 l c).toInt = l.toInt * 4294967296 + (c.toInt + 2147483648) := by
  have r1 := rng32 l
  have r2 := rng32 c
  have h1 := c_lshl l.toInt64 32 32 (by decide)
  have h2 := c_ladd c.toInt64 2147483648
  have h3 := c_ladd (l.toInt64 <<< ((32 : Int32) &&& 0x3f).toInt64) (c.toInt64 + 2147483648)
  have q1 := rng64 (l.toInt64 <<< ((32 : Int32) &&& 0x3f).toInt64)
  have q2 := rng64 (c.toInt64 + 2147483648)
  have q3 := rng64 ((l.toInt64 <<< ((32 : Int32) &&& 0x3f).toInt64) + (c.toInt64 + 2147483648))
  rw [c_i2l] at h1 h2
  rw [show (2147483648 : Int64).toInt = 2147483648 from by decide] at h2
  unfold own_f10
  have h1' : ((l.toInt64 <<< ((32 : Int32) &&& 0x3f).toInt64).toInt - l.toInt * 4294967296) % 18446744073709551616 = 0 := h1
  omega
theorem own_key (l1 l2 c1 c2 : Int32) : own_f9 l1 l2 c1 c2 = if lcmpW (own_f10 l1 c1) (own_f10 l2 c2) < 0 then 1 else 0 := by
  have r1 := rng32 c1
  have r2 := rng32 c2
  simp only [lw_lt, Int64.lt_iff_toInt_lt, own_key10]
  unfold own_f9
  simp only [Int32.lt_iff_toInt_lt, ← Int32.toInt_inj (x := l1)]
  repeat' split
  all_goals first | rfl | omega
theorem own_one (P : Prop) [Decidable P] : ((if P then (1 : Int32) else 0) = 1) = P := by split <;> simp_all
theorem own_zero (P : Prop) [Decidable P] : ((if P then (1 : Int32) else 0) = 0) = ¬ P := by split <;> simp_all
theorem own_law (p1 p2 p3 p4 p5 : Int32) : own_f0 p1 p2 p3 p4 p5 = 1 := by
  unfold own_f0
  simp only [own_key, own_one, own_zero]
  repeat' split
  all_goals first | rfl | contradiction
set_option maxRecDepth 65536 in
set_option maxHeartbeats 40000000 in
theorem comes_1 {Post : Tables → Env → Array Value → State → Outcome → State → Prop} (hpost : ∀ tb e args s v u, (limb_1_1.after args s (.returned v) u = true ∧ limb_1_2.after args s (.returned v) u = true ∧ True) → ReturnedEndW s (.returned v) u (Jvm.fieldLocs frame_1_writes args s ++ Jvm.arrayLocs frame_1_arrays args s ++ Jvm.staticLocs frame_1_statics s) 24 1152 → Post tb e args s (.returned v) u) :
    ArmFor flags0 classFile x code maxLocals ret World_1 tables_1 room_1 Calls_1 rest_1 Pre_1 Post := by
  intro l hfl _ _ p e ha hc hk s m args below hf hA hF happ hP
  obtain ⟨hcalls, hrest, hpre⟩ := hP
  obtain ⟨-, -, -, hnamed, -, -, -, hat⟩ := (Spec.applies_iff hf).mp happ
  obtain ⟨hg, hn⟩ := and_e (Cond.before_iff.mp (show (Jvm.Cond.and given_1 narrow_1).before args s = true from hpre))
  obtain ⟨gg1, gg2⟩ := and_e hg
  obtain ⟨gg3, gg4⟩ := and_e gg2
  obtain ⟨gg5, gg6⟩ := and_e gg4
  obtain ⟨gg7, gg8⟩ := and_e gg6
  obtain ⟨gg9, gg10⟩ := and_e gg8
  obtain ⟨gg11, gg12⟩ := and_e gg10
  obtain ⟨w0, w1, w2, w3, w4, w5, rfl⟩ : ∃ w0 w1 w2 w3 w4 w5 : Value, args = #[w0, w1, w2, w3, w4, w5] := by
    have hs : args.size = 6 := by simpa [Cond.value, given_1] using gg1
    obtain ⟨L⟩ := args
    match L, hs with
    | [w0, w1, w2, w3, w4, w5], _ => exact ⟨w0, w1, w2, w3, w4, w5, rfl⟩
  have hw := fun d (hd : d ∈ tables_1) => atoms_spec (ws := Jvm.Cond.code x code maxLocals ret :: tables_1) hat d (List.mem_cons_of_mem _ hd)
  have hfit : Fit s := fun {y c} hc i hi => by
    obtain ⟨ha, rfl⟩ := Array.getElem?_eq_some_iff.mp hc
    have q := List.all_eq_true.mp ((Array.all_eq_true_iff_forall_mem.mp hF) _ (Array.getElem_mem ha)) i (List.mem_range.mpr hi)
    simpa [Array.getElem?_eq_getElem hi] using q
  obtain ⟨hsets, hown0⟩ := atoms_of _ (rest_1_c_eq ▸ (show rest_1_c.before _ s = true from hrest))
  have hr0 := Cond.before_iff.mp hown0
  obtain ⟨i0, ei0⟩ := is_v gg3
  obtain rfl : w0 = (.int i0) := Option.some.inj ei0
  obtain ⟨i1, ei1⟩ := is_v gg5
  obtain rfl : w1 = (.int i1) := Option.some.inj ei1
  obtain ⟨i2, ei2⟩ := is_v gg7
  obtain rfl : w2 = (.int i2) := Option.some.inj ei2
  obtain ⟨i3, ei3⟩ := is_v gg9
  obtain rfl : w3 = (.int i3) := Option.some.inj ei3
  obtain ⟨i4, ei4⟩ := is_v gg11
  obtain rfl : w4 = (.int i4) := Option.some.inj ei4
  obtain ⟨i5, ei5⟩ := is_v gg12
  obtain rfl : w5 = (.int i5) := Option.some.inj ei5
  have n3 := not_v (Cond.before_iff.mp (hsets _ (List.mem_of_getElem? (i := 2) rfl)))
  obtain ⟨i_cs, e_cs⟩ := is_v (Cond.before_iff.mp (hsets _ (List.mem_of_getElem? (i := 1) rfl)))
  have S_cs : Sta s s.heap "java/lang/String" "COMPACT_STRINGS" "Z" (.int i_cs) := Sta.start e_cs (Or.inl (hsets _ (List.mem_of_getElem? (i := 0) rfl)))
  have c_cs : ¬ (i_cs = (0 : Int32)) := gotF (Cond.eq_ints e_cs (Term.int_eval (0))) n3
  obtain ⟨n, o, h1, h2, h3, _, L, rfl, ⟨rfl, N⟩, hq⟩ := own_rm0 l s _ hw tables_1 i0 i1 i2 i3 i4 i5 i_cs s.heap s.heap.size (Nat.le_refl _) c_cs S_cs p e ha hc hk s m _ below hf ((Spec.applies_iff_loose hf).mp happ).1 ⟨rfl, State.Warmed39.refl s, rfl⟩ trivial
  refine ⟨n, _, h1, h2, h3, hpost _ _ _ _ _ _ ⟨Cond.after_iff.mpr rfl, Cond.after_iff.mpr (eq_i res_at (Term.int_eval (1)) (congrArg Value.int (own_law i0 i1 i2 i3 i4))), trivial⟩ ⟨hq.1, hq.2.1, hq.2.2.1, (hq.2.2.2.sift fun y hy => Or.inr (N y hy)).mono (by decide) (by decide)⟩⟩
theorem main_1_1 : Claimed_1_1 := comes_1 fun _ _ _ _ _ _ h hF => ⟨h.1, hF⟩
theorem main_1_2 : Claimed_1_2 := comes_1 fun _ _ _ _ _ _ h hF => ⟨h.2.1, hF⟩
end Jvm.Pilot.@@N@@
namespace Jvm.Pilot.@@N@@
open Jvm Jvm.ClassFile Sem Op Lib Jvm.Free Jvm.Stand Jvm.Pilot.@@N@@.Jvm.D
/-! MADE BY PROGRAM (witnessworld.py) out of the Statement's table words and the real class files: 19 classes; the members and pool entries that the words name. The judged class is class 1, her method 2. -/
namespace start1
open Jvm.ClassFile
def u (s : String) : CpInfo := .utf8 (stringToUtf16 s)
/-- a pool by its gaps: so many unusable entries, then the entry; so many at the end -/
def gap : Nat → List CpInfo → List CpInfo
  | 0, r => r
  | n + 1, r => .unusable :: gap n r
def poolList (es : List (Nat × CpInfo)) (last : Nat) : List CpInfo := es.foldr (fun e r => gap e.1 (e.2 :: r)) (gap last [])
def pool (es : List (Nat × CpInfo)) (last : Nat) : Array CpInfo := ⟨poolList es last⟩
def fileOf (pool : Array CpInfo) (this : Nat) (attrs : Array Attribute := #[]) (ms : Array MethodInfo := #[]) (fl : Nat := 33) (sup : Nat := 0) (ifs : Array Nat := #[]) (fds : Array FieldInfo := #[]) : ClassFile where
  minorVersion := 0
  majorVersion := 65
  constantPool := pool
  accessFlags := fl
  thisClass := this
  superClass := sup
  interfaces := ifs
  fields := fds
  methods := ms
  attributes := attrs
def plain (name : String) (sup : Option ClassId) : Class where
  name := name
  kind := .ordinary
  loader := none
  accessFlags := 33
  super := sup
  interfaces := #[]
  cf := none
  fields := #[]
  methods := #[]
  instanceTypes := #[]
  staticTypes := #[]
  resolved := #[]
  callSites := []
  init := .initialized
  statics := none
  mirror := none

def pool0 : Array CpInfo := pool [(5, u "<init>"), (0, u "()V"), (1, .class_ 10), (1, u "java/lang/Object")] 113

def k0c0 : Code := { maxStack := 0, maxLocals := 1, code := object_method_1_code, exceptionTable := #[], attributes := #[] }
def k0m0 : Method := { name := "<init>", desc := "()V", sig := { parameters := [], returnType := none }, accessFlags := 1, code := some k0c0 }
/-- java/lang/Object -/
def k0 : Class := { plain "java/lang/Object" none with
  accessFlags := 33
  interfaces := #[]
  cf := some (fileOf pool0 8 #[] #[{ accessFlags := 1, nameIndex := 5, descriptorIndex := 6, attributes := #[] }] 33 0 #[] #[])
  fields := #[]
  methods := #[k0m0]
  instanceTypes := #[]
  staticTypes := #[]
  resolved := Array.replicate 124 none
  statics := none }

def pool1 : Array CpInfo := pool [(2, .class_ 4), (1, u "java/lang/Object"), (0, u "<init>"), (0, u "()V"), (0, .long 2147483648), (1, .methodref 10 11), (0, .class_ 12), (0, .nameAndType 13 14), (0, u "java/lang/String"), (0, u "valueOf"), (0, u "(C)Ljava/lang/String;"), (0, .class_ 16), (0, u "com/example/edgbaston/edgbaston/source/Location"), (0, .methodref 15 18), (0, .nameAndType 5 19), (0, u "(Ljava/lang/String;II)V"), (0, .methodref 15 21), (0, .nameAndType 22 23), (0, u "isBefore"), (0, u "(Lcom/example/edgbaston/edgbaston/source/Location;)Z"), (0, .methodref 25 26), (0, .class_ 27), (0, .nameAndType 28 29), (0, u "com/example/edgbaston/edgbaston/source/LocationIsBeforePinLaw"), (0, u "key"), (0, u "(II)J"), (2, u "law"), (0, u "(IIIIII)Z")] 3

def k1m0 : Method := { name := "<init>", desc := "()V", sig := { parameters := [], returnType := none }, accessFlags := 1, code := none }
def k1c1 : Code := { maxStack := 6, maxLocals := 2, code := method_2_code, exceptionTable := #[], attributes := #[] }
def k1m1 : Method := { name := "key", desc := "(II)J", sig := { parameters := [.int, .int], returnType := some .long }, accessFlags := 10, code := some k1c1 }
def k1c2 : Code := { maxStack := 5, maxLocals := 18, code := code, exceptionTable := #[], attributes := #[] }
def k1m2 : Method := { name := "law", desc := "(IIIIII)Z", sig := { parameters := [.int, .int, .int, .int, .int, .int], returnType := some .boolean }, accessFlags := 9, code := some k1c2 }
/-- com/example/edgbaston/edgbaston/source/LocationIsBeforePinLaw -/
def k1 : Class := { plain "com/example/edgbaston/edgbaston/source/LocationIsBeforePinLaw" (some 0) with
  accessFlags := 49
  interfaces := #[]
  cf := some (fileOf pool1 25 #[] #[{ accessFlags := 1, nameIndex := 5, descriptorIndex := 6, attributes := #[] }, { accessFlags := 10, nameIndex := 28, descriptorIndex := 29, attributes := #[] }, { accessFlags := 9, nameIndex := 32, descriptorIndex := 33, attributes := #[] }] 49 2 #[] #[])
  fields := #[]
  methods := #[k1m0, k1m1, k1m2]
  instanceTypes := #[]
  staticTypes := #[]
  resolved := Array.replicate 37 none
  statics := none }

def pool2 : Array CpInfo := pool [(1, .class_ 2), (0, u "java/io/Serializable"), (0, .class_ 4), (0, u "java/lang/Object")] 2

/-- java/io/Serializable -/
def k2 : Class := { plain "java/io/Serializable" (some 0) with
  accessFlags := 1537
  interfaces := #[]
  cf := some (fileOf pool2 1 #[] #[] 1537 3 #[] #[])
  fields := #[]
  methods := #[]
  instanceTypes := #[]
  staticTypes := #[]
  resolved := Array.replicate 7 none
  statics := none }

def pool3 : Array CpInfo := pool [(1, .class_ 2), (0, u "java/lang/Comparable"), (0, .class_ 4), (0, u "java/lang/Object")] 7

/-- java/lang/Comparable -/
def k3 : Class := { plain "java/lang/Comparable" (some 0) with
  accessFlags := 1537
  interfaces := #[]
  cf := some (fileOf pool3 1 #[] #[] 1537 3 #[] #[])
  fields := #[]
  methods := #[]
  instanceTypes := #[]
  staticTypes := #[]
  resolved := Array.replicate 12 none
  statics := none }

def pool4 : Array CpInfo := pool [(2, .class_ 4), (1, u "java/lang/CharSequence"), (42, .class_ 48), (0, u "java/lang/CharSequence$1CodePointIterator"), (10, .class_ 60), (0, u "java/lang/CharSequence$1CharIterator"), (5, .class_ 67), (0, u "java/lang/Object")] 63

/-- java/lang/CharSequence -/
def k4 : Class := { plain "java/lang/CharSequence" (some 0) with
  accessFlags := 1537
  interfaces := #[]
  cf := some (fileOf pool4 2 #[.nestMembers #[47, 59]] #[] 1537 66 #[] #[])
  fields := #[]
  methods := #[]
  instanceTypes := #[]
  staticTypes := #[]
  resolved := Array.replicate 131 none
  statics := none }

def pool5 : Array CpInfo := pool [(1, .class_ 2), (0, u "java/lang/constant/Constable"), (0, .class_ 4), (0, u "java/lang/Object")] 6

/-- java/lang/constant/Constable -/
def k5 : Class := { plain "java/lang/constant/Constable" (some 0) with
  accessFlags := 1537
  interfaces := #[]
  cf := some (fileOf pool5 1 #[] #[] 1537 3 #[] #[])
  fields := #[]
  methods := #[]
  instanceTypes := #[]
  staticTypes := #[]
  resolved := Array.replicate 11 none
  statics := none }

def pool6 : Array CpInfo := pool [(1, .class_ 2), (0, u "java/lang/constant/ConstantDesc"), (0, .class_ 4), (0, u "java/lang/Object")] 32

/-- java/lang/constant/ConstantDesc -/
def k6 : Class := { plain "java/lang/constant/ConstantDesc" (some 0) with
  accessFlags := 1537
  interfaces := #[]
  cf := some (fileOf pool6 1 #[] #[] 1537 3 #[] #[])
  fields := #[]
  methods := #[]
  instanceTypes := #[]
  staticTypes := #[]
  resolved := Array.replicate 37 none
  statics := none }

def pool7 : Array CpInfo := pool [(1, .methodref 2 3), (0, .class_ 4), (0, .nameAndType 5 6), (0, u "java/lang/Object"), (0, u "<init>"), (0, u "()V"), (2, .fieldref 10 11), (0, .class_ 12), (0, .nameAndType 13 14), (0, u "java/lang/String"), (0, u "value"), (0, u "[B"), (0, .fieldref 10 16), (0, .nameAndType 17 18), (0, u "coder"), (0, u "B"), (2, u "hash"), (0, u "I"), (2, u "hashIsZero"), (0, u "Z"), (11, .fieldref 10 39), (0, .nameAndType 40 26), (0, u "COMPACT_STRINGS"), (12, u "toBytes"), (53, .class_ 109), (1, u "java/lang/StringLatin1"), (99, .methodref 10 210), (0, .nameAndType 5 211), (0, u "([BB)V"), (157, u "(C)Z"), (205, .class_ 576), (0, u "java/lang/CharSequence"), (22, u "CASE_INSENSITIVE_ORDER"), (0, u "Ljava/util/Comparator;"), (181, u "valueOf"), (0, u "(C)Ljava/lang/String;"), (231, .methodref 107 1016), (0, .nameAndType 1017 369), (0, u "canEncode"), (0, .methodref 107 1019), (0, .nameAndType 53 1020), (0, u "(C)[B"), (80, u "serialPersistentFields"), (0, u "[Ljava/io/ObjectStreamField;"), (0, .class_ 1104), (0, u "java/lang/String$CaseInsensitiveComparator"), (1, .class_ 1107), (0, u "java/io/Serializable"), (0, .class_ 1109), (0, u "java/lang/Comparable"), (0, .class_ 1111), (0, u "java/lang/constant/Constable"), (0, .class_ 1113), (0, u "java/lang/constant/ConstantDesc"), (2, u "serialVersionUID"), (0, u "J"), (3, u "REPL"), (0, u "C"), (2, u "LATIN1"), (1, u "UTF16")] 323

def k7m0 : Method := { name := "<init>", desc := "()V", sig := { parameters := [], returnType := none }, accessFlags := 1, code := none }
def k7c1 : Code := { maxStack := 4, maxLocals := 1, code := jdk_42_method_139_code, exceptionTable := #[], attributes := #[] }
def k7m1 : Method := { name := "valueOf", desc := "(C)Ljava/lang/String;", sig := { parameters := [.char], returnType := some (.object "java/lang/String") }, accessFlags := 9, code := some k7c1 }
def k7c2 : Code := { maxStack := 2, maxLocals := 3, code := jdk_42_method_151_code, exceptionTable := #[], attributes := #[] }
def k7m2 : Method := { name := "<init>", desc := "([BB)V", sig := { parameters := [(.array .byte), .byte], returnType := none }, accessFlags := 0, code := some k7c2 }
/-- java/lang/String -/
def k7 : Class := { plain "java/lang/String" (some 0) with
  accessFlags := 49
  interfaces := #[2, 3, 4, 5, 6]
  cf := some (fileOf pool7 10 #[.nestMembers #[1103]] #[{ accessFlags := 1, nameIndex := 5, descriptorIndex := 6, attributes := #[] }, { accessFlags := 9, nameIndex := 782, descriptorIndex := 783, attributes := #[] }, { accessFlags := 0, nameIndex := 5, descriptorIndex := 211, attributes := #[] }] 49 2 #[1106, 1108, 575, 1110, 1112] #[{ accessFlags := 18, nameIndex := 13, descriptorIndex := 14, attributes := #[] }, { accessFlags := 18, nameIndex := 17, descriptorIndex := 18, attributes := #[] }, { accessFlags := 2, nameIndex := 21, descriptorIndex := 22, attributes := #[] }, { accessFlags := 2, nameIndex := 25, descriptorIndex := 26, attributes := #[] }, { accessFlags := 26, nameIndex := 1116, descriptorIndex := 1117, attributes := #[] }, { accessFlags := 24, nameIndex := 40, descriptorIndex := 26, attributes := #[] }, { accessFlags := 26, nameIndex := 1101, descriptorIndex := 1102, attributes := #[] }, { accessFlags := 26, nameIndex := 1121, descriptorIndex := 1122, attributes := #[] }, { accessFlags := 25, nameIndex := 599, descriptorIndex := 600, attributes := #[] }, { accessFlags := 24, nameIndex := 1125, descriptorIndex := 18, attributes := #[] }, { accessFlags := 24, nameIndex := 1127, descriptorIndex := 18, attributes := #[] }])
  fields := #[{ name := "value", type := (.array .byte), accessFlags := 18, slot := 0, constantValue := 0 }, { name := "coder", type := .byte, accessFlags := 18, slot := 1, constantValue := 0 }, { name := "hash", type := .int, accessFlags := 2, slot := 2, constantValue := 0 }, { name := "hashIsZero", type := .boolean, accessFlags := 2, slot := 3, constantValue := 0 }, { name := "serialVersionUID", type := .long, accessFlags := 26, slot := 0, constantValue := 0 }, { name := "COMPACT_STRINGS", type := .boolean, accessFlags := 24, slot := 1, constantValue := 0 }, { name := "serialPersistentFields", type := (.array (.object "java/io/ObjectStreamField")), accessFlags := 26, slot := 2, constantValue := 0 }, { name := "REPL", type := .char, accessFlags := 26, slot := 3, constantValue := 0 }, { name := "CASE_INSENSITIVE_ORDER", type := (.object "java/util/Comparator"), accessFlags := 25, slot := 4, constantValue := 0 }, { name := "LATIN1", type := .byte, accessFlags := 24, slot := 5, constantValue := 0 }, { name := "UTF16", type := .byte, accessFlags := 24, slot := 6, constantValue := 0 }]
  methods := #[k7m0, k7m1, k7m2]
  instanceTypes := #[(.array .byte), .byte, .int, .boolean]
  staticTypes := #[.long, .boolean, (.array (.object "java/io/ObjectStreamField")), .char, (.object "java/util/Comparator"), .byte, .byte]
  resolved := Array.replicate 1451 none
  statics := some 0 }

def pool8 : Array CpInfo := pool [(4, .class_ 6), (1, u "java/lang/Object"), (0, u "<init>"), (0, u "()V"), (5, .class_ 16), (1, u "java/lang/StringLatin1"), (73, u "canEncode"), (14, u "(C)Z"), (15, u "$assertionsDisabled"), (0, u "Z"), (98, .class_ 223), (1, u "java/lang/StringLatin1$LinesSpliterator"), (156, u "toBytes"), (1, u "(C)[B"), (7, .class_ 391), (0, u "java/lang/StringLatin1$CharsSpliterator")] 3

def k8m0 : Method := { name := "<init>", desc := "()V", sig := { parameters := [], returnType := none }, accessFlags := 0, code := none }
def k8c1 : Code := { maxStack := 2, maxLocals := 1, code := jdk_43_method_3_code, exceptionTable := #[], attributes := #[] }
def k8m1 : Method := { name := "canEncode", desc := "(C)Z", sig := { parameters := [.char], returnType := some .boolean }, accessFlags := 9, code := some k8c1 }
def k8c2 : Code := { maxStack := 4, maxLocals := 1, code := jdk_43_method_46_code, exceptionTable := #[], attributes := #[] }
def k8m2 : Method := { name := "toBytes", desc := "(C)[B", sig := { parameters := [.char], returnType := some (.array .byte) }, accessFlags := 9, code := some k8c2 }
/-- java/lang/StringLatin1 -/
def k8 : Class := { plain "java/lang/StringLatin1" (some 0) with
  accessFlags := 48
  interfaces := #[]
  cf := some (fileOf pool8 14 #[.nestMembers #[390, 221]] #[{ accessFlags := 0, nameIndex := 7, descriptorIndex := 8, attributes := #[] }, { accessFlags := 9, nameIndex := 90, descriptorIndex := 105, attributes := #[] }, { accessFlags := 9, nameIndex := 380, descriptorIndex := 382, attributes := #[] }] 48 4 #[] #[{ accessFlags := 4120, nameIndex := 121, descriptorIndex := 122, attributes := #[] }])
  fields := #[{ name := "$assertionsDisabled", type := .boolean, accessFlags := 4120, slot := 0, constantValue := 0 }]
  methods := #[k8m0, k8m1, k8m2]
  instanceTypes := #[]
  staticTypes := #[.boolean]
  resolved := Array.replicate 395 none
  statics := none }

def pool9 : Array CpInfo := pool [(1, .methodref 2 3), (0, .class_ 4), (0, .nameAndType 5 6), (0, u "java/lang/Object"), (0, u "<init>"), (0, u "()V"), (0, .class_ 8), (0, u "java/lang/Record")] 13

def k9c0 : Code := { maxStack := 1, maxLocals := 1, code := jdk_30_method_1_code, exceptionTable := #[], attributes := #[] }
def k9m0 : Method := { name := "<init>", desc := "()V", sig := { parameters := [], returnType := none }, accessFlags := 4, code := some k9c0 }
/-- java/lang/Record -/
def k9 : Class := { plain "java/lang/Record" (some 0) with
  accessFlags := 1057
  interfaces := #[]
  cf := some (fileOf pool9 7 #[] #[{ accessFlags := 4, nameIndex := 5, descriptorIndex := 6, attributes := #[] }] 1057 2 #[] #[])
  fields := #[]
  methods := #[k9m0]
  instanceTypes := #[]
  staticTypes := #[]
  resolved := Array.replicate 22 none
  statics := none }

def pool10 : Array CpInfo := pool [(1, .methodref 2 3), (0, .class_ 4), (0, .nameAndType 5 6), (0, u "java/lang/Record"), (0, u "<init>"), (0, u "()V"), (0, .string 8), (0, u "file"), (0, .methodref 10 11), (0, .class_ 12), (0, .nameAndType 13 14), (0, u "java/util/Objects"), (0, u "requireNonNull"), (0, u "(Ljava/lang/Object;Ljava/lang/String;)Ljava/lang/Object;"), (0, .fieldref 16 17), (0, .class_ 18), (0, .nameAndType 8 19), (0, u "com/example/edgbaston/edgbaston/source/Location"), (0, u "Ljava/lang/String;"), (0, .fieldref 16 21), (0, .nameAndType 22 23), (0, u "line"), (0, u "I"), (0, .fieldref 16 25), (0, .nameAndType 26 23), (0, u "column"), (12, u "(Ljava/lang/String;II)V"), (3, u "isBefore"), (0, u "(Lcom/example/edgbaston/edgbaston/source/Location;)Z")] 35

def k10c0 : Code := { maxStack := 2, maxLocals := 4, code := prog_54_method_1_code, exceptionTable := #[], attributes := #[] }
def k10m0 : Method := { name := "<init>", desc := "(Ljava/lang/String;II)V", sig := { parameters := [(.object "java/lang/String"), .int, .int], returnType := none }, accessFlags := 1, code := some k10c0 }
def k10c1 : Code := { maxStack := 2, maxLocals := 2, code := prog_54_method_2_code, exceptionTable := #[], attributes := #[] }
def k10m1 : Method := { name := "isBefore", desc := "(Lcom/example/edgbaston/edgbaston/source/Location;)Z", sig := { parameters := [(.object "com/example/edgbaston/edgbaston/source/Location")], returnType := some .boolean }, accessFlags := 1, code := some k10c1 }
/-- com/example/edgbaston/edgbaston/source/Location -/
def k10 : Class := { plain "com/example/edgbaston/edgbaston/source/Location" (some 9) with
  accessFlags := 49
  interfaces := #[]
  cf := some (fileOf pool10 16 #[] #[{ accessFlags := 1, nameIndex := 5, descriptorIndex := 39, attributes := #[] }, { accessFlags := 1, nameIndex := 43, descriptorIndex := 44, attributes := #[] }] 49 2 #[] #[{ accessFlags := 18, nameIndex := 8, descriptorIndex := 19, attributes := #[] }, { accessFlags := 18, nameIndex := 22, descriptorIndex := 23, attributes := #[] }, { accessFlags := 18, nameIndex := 26, descriptorIndex := 23, attributes := #[] }])
  fields := #[{ name := "file", type := (.object "java/lang/String"), accessFlags := 18, slot := 0, constantValue := 0 }, { name := "line", type := .int, accessFlags := 18, slot := 1, constantValue := 0 }, { name := "column", type := .int, accessFlags := 18, slot := 2, constantValue := 0 }]
  methods := #[k10m0, k10m1]
  instanceTypes := #[(.object "java/lang/String"), .int, .int]
  staticTypes := #[]
  resolved := Array.replicate 80 none
  statics := none }

def pool11 : Array CpInfo := pool [(2, .class_ 4), (1, u "java/lang/Object"), (0, u "<init>"), (0, u "()V"), (35, .class_ 44), (1, u "java/util/Objects"), (0, u "requireNonNull"), (48, u "(Ljava/lang/Object;Ljava/lang/String;)Ljava/lang/Object;")] 89

def k11m0 : Method := { name := "<init>", desc := "()V", sig := { parameters := [], returnType := none }, accessFlags := 2, code := none }
def k11c1 : Code := { maxStack := 3, maxLocals := 2, code := jdk_31_method_11_code, exceptionTable := #[], attributes := #[] }
def k11m1 : Method := { name := "requireNonNull", desc := "(Ljava/lang/Object;Ljava/lang/String;)Ljava/lang/Object;", sig := { parameters := [(.object "java/lang/Object"), (.object "java/lang/String")], returnType := some (.object "java/lang/Object") }, accessFlags := 9, code := some k11c1 }
/-- java/util/Objects -/
def k11 : Class := { plain "java/util/Objects" (some 0) with
  accessFlags := 49
  interfaces := #[]
  cf := some (fileOf pool11 42 #[] #[{ accessFlags := 2, nameIndex := 5, descriptorIndex := 6, attributes := #[] }, { accessFlags := 9, nameIndex := 45, descriptorIndex := 94, attributes := #[] }] 49 2 #[] #[])
  fields := #[]
  methods := #[k11m0, k11m1]
  instanceTypes := #[]
  staticTypes := #[]
  resolved := Array.replicate 184 none
  statics := none }

def pool12 : Array CpInfo := pool [(2, .class_ 4), (1, u "java/lang/Object"), (0, u "<init>"), (0, u "()V"), (17, .class_ 26), (1, u "jdk/internal/util/Preconditions"), (28, .class_ 56), (0, u "jdk/internal/util/Preconditions$4"), (57, .class_ 115), (0, u "jdk/internal/util/Preconditions$1"), (7, u "SIOOBE_FORMATTER"), (0, u "Ljava/util/function/BiFunction;"), (0, .class_ 126), (0, u "jdk/internal/util/Preconditions$2"), (3, u "AIOOBE_FORMATTER"), (0, .class_ 132), (0, u "jdk/internal/util/Preconditions$3"), (3, u "IOOBE_FORMATTER")] 57

def k12m0 : Method := { name := "<init>", desc := "()V", sig := { parameters := [], returnType := none }, accessFlags := 1, code := none }
/-- jdk/internal/util/Preconditions -/
def k12 : Class := { plain "jdk/internal/util/Preconditions" (some 0) with
  accessFlags := 33
  interfaces := #[]
  cf := some (fileOf pool12 24 #[.nestMembers #[55, 131, 125, 114]] #[{ accessFlags := 1, nameIndex := 5, descriptorIndex := 6, attributes := #[] }] 33 2 #[] #[{ accessFlags := 25, nameIndex := 123, descriptorIndex := 124, attributes := #[] }, { accessFlags := 25, nameIndex := 130, descriptorIndex := 124, attributes := #[] }, { accessFlags := 25, nameIndex := 136, descriptorIndex := 124, attributes := #[] }])
  fields := #[{ name := "SIOOBE_FORMATTER", type := (.object "java/util/function/BiFunction"), accessFlags := 25, slot := 0, constantValue := 0 }, { name := "AIOOBE_FORMATTER", type := (.object "java/util/function/BiFunction"), accessFlags := 25, slot := 1, constantValue := 0 }, { name := "IOOBE_FORMATTER", type := (.object "java/util/function/BiFunction"), accessFlags := 25, slot := 2, constantValue := 0 }]
  methods := #[k12m0]
  instanceTypes := #[]
  staticTypes := #[(.object "java/util/function/BiFunction"), (.object "java/util/function/BiFunction"), (.object "java/util/function/BiFunction")]
  resolved := Array.replicate 194 none
  statics := some 1 }

def pool13 : Array CpInfo := pool [(9, u "<init>"), (6, .class_ 18), (1, u "java/lang/Object"), (0, u "()V"), (1, .class_ 23), (1, u "jdk/internal/util/ArraysSupport"), (0, u "LOG2_ARRAY_LONG_INDEX_SCALE"), (0, u "I"), (2, u "U"), (0, u "Ljdk/internal/misc/Unsafe;"), (8, u "BIG_ENDIAN"), (0, u "Z"), (8, u "LOG2_BYTE_BIT_SIZE"), (4, u "LOG2_ARRAY_INT_INDEX_SCALE"), (54, u "JLA"), (0, u "Ljdk/internal/access/JavaLangAccess;"), (11, u "LOG2_ARRAY_BOOLEAN_INDEX_SCALE"), (9, u "LOG2_ARRAY_BYTE_INDEX_SCALE"), (5, u "LOG2_ARRAY_CHAR_INDEX_SCALE"), (5, u "LOG2_ARRAY_SHORT_INDEX_SCALE"), (18, u "LOG2_ARRAY_FLOAT_INDEX_SCALE"), (24, u "LOG2_ARRAY_DOUBLE_INDEX_SCALE"), (89, u "T_BOOLEAN"), (2, u "T_CHAR"), (1, u "T_FLOAT"), (1, u "T_DOUBLE"), (1, u "T_BYTE"), (1, u "T_SHORT"), (1, u "T_INT"), (1, u "T_LONG"), (1, u "SOFT_MAX_ARRAY_LENGTH")] 83

def k13m0 : Method := { name := "<init>", desc := "()V", sig := { parameters := [], returnType := none }, accessFlags := 2, code := none }
/-- jdk/internal/util/ArraysSupport -/
def k13 : Class := { plain "jdk/internal/util/ArraysSupport" (some 0) with
  accessFlags := 33
  interfaces := #[]
  cf := some (fileOf pool13 21 #[] #[{ accessFlags := 2, nameIndex := 9, descriptorIndex := 19, attributes := #[] }] 33 16 #[] #[{ accessFlags := 24, nameIndex := 28, descriptorIndex := 29, attributes := #[] }, { accessFlags := 26, nameIndex := 38, descriptorIndex := 39, attributes := #[] }, { accessFlags := 25, nameIndex := 121, descriptorIndex := 25, attributes := #[] }, { accessFlags := 25, nameIndex := 131, descriptorIndex := 25, attributes := #[] }, { accessFlags := 25, nameIndex := 137, descriptorIndex := 25, attributes := #[] }, { accessFlags := 25, nameIndex := 143, descriptorIndex := 25, attributes := #[] }, { accessFlags := 25, nameIndex := 53, descriptorIndex := 25, attributes := #[] }, { accessFlags := 25, nameIndex := 24, descriptorIndex := 25, attributes := #[] }, { accessFlags := 25, nameIndex := 162, descriptorIndex := 25, attributes := #[] }, { accessFlags := 25, nameIndex := 187, descriptorIndex := 25, attributes := #[] }, { accessFlags := 26, nameIndex := 48, descriptorIndex := 25, attributes := #[] }, { accessFlags := 25, nameIndex := 277, descriptorIndex := 25, attributes := #[] }, { accessFlags := 25, nameIndex := 280, descriptorIndex := 25, attributes := #[] }, { accessFlags := 25, nameIndex := 282, descriptorIndex := 25, attributes := #[] }, { accessFlags := 25, nameIndex := 284, descriptorIndex := 25, attributes := #[] }, { accessFlags := 25, nameIndex := 286, descriptorIndex := 25, attributes := #[] }, { accessFlags := 25, nameIndex := 288, descriptorIndex := 25, attributes := #[] }, { accessFlags := 25, nameIndex := 290, descriptorIndex := 25, attributes := #[] }, { accessFlags := 25, nameIndex := 292, descriptorIndex := 25, attributes := #[] }, { accessFlags := 26, nameIndex := 108, descriptorIndex := 109, attributes := #[] }, { accessFlags := 25, nameIndex := 294, descriptorIndex := 25, attributes := #[] }])
  fields := #[{ name := "U", type := (.object "jdk/internal/misc/Unsafe"), accessFlags := 24, slot := 0, constantValue := 0 }, { name := "BIG_ENDIAN", type := .boolean, accessFlags := 26, slot := 1, constantValue := 0 }, { name := "LOG2_ARRAY_BOOLEAN_INDEX_SCALE", type := .int, accessFlags := 25, slot := 2, constantValue := 0 }, { name := "LOG2_ARRAY_BYTE_INDEX_SCALE", type := .int, accessFlags := 25, slot := 3, constantValue := 0 }, { name := "LOG2_ARRAY_CHAR_INDEX_SCALE", type := .int, accessFlags := 25, slot := 4, constantValue := 0 }, { name := "LOG2_ARRAY_SHORT_INDEX_SCALE", type := .int, accessFlags := 25, slot := 5, constantValue := 0 }, { name := "LOG2_ARRAY_INT_INDEX_SCALE", type := .int, accessFlags := 25, slot := 6, constantValue := 0 }, { name := "LOG2_ARRAY_LONG_INDEX_SCALE", type := .int, accessFlags := 25, slot := 7, constantValue := 0 }, { name := "LOG2_ARRAY_FLOAT_INDEX_SCALE", type := .int, accessFlags := 25, slot := 8, constantValue := 0 }, { name := "LOG2_ARRAY_DOUBLE_INDEX_SCALE", type := .int, accessFlags := 25, slot := 9, constantValue := 0 }, { name := "LOG2_BYTE_BIT_SIZE", type := .int, accessFlags := 26, slot := 10, constantValue := 0 }, { name := "T_BOOLEAN", type := .int, accessFlags := 25, slot := 11, constantValue := 0 }, { name := "T_CHAR", type := .int, accessFlags := 25, slot := 12, constantValue := 0 }, { name := "T_FLOAT", type := .int, accessFlags := 25, slot := 13, constantValue := 0 }, { name := "T_DOUBLE", type := .int, accessFlags := 25, slot := 14, constantValue := 0 }, { name := "T_BYTE", type := .int, accessFlags := 25, slot := 15, constantValue := 0 }, { name := "T_SHORT", type := .int, accessFlags := 25, slot := 16, constantValue := 0 }, { name := "T_INT", type := .int, accessFlags := 25, slot := 17, constantValue := 0 }, { name := "T_LONG", type := .int, accessFlags := 25, slot := 18, constantValue := 0 }, { name := "JLA", type := (.object "jdk/internal/access/JavaLangAccess"), accessFlags := 26, slot := 19, constantValue := 0 }, { name := "SOFT_MAX_ARRAY_LENGTH", type := .int, accessFlags := 25, slot := 20, constantValue := 0 }]
  methods := #[k13m0]
  instanceTypes := #[]
  staticTypes := #[(.object "jdk/internal/misc/Unsafe"), .boolean, .int, .int, .int, .int, .int, .int, .int, .int, .int, .int, .int, .int, .int, .int, .int, .int, .int, (.object "jdk/internal/access/JavaLangAccess"), .int]
  resolved := Array.replicate 378 none
  statics := none }

def pool14 : Array CpInfo := pool [(1, u "java/lang/Cloneable"), (0, .class_ 1), (0, u "java/lang/Object"), (0, .class_ 3)] 3

/-- java/lang/Cloneable -/
def k14 : Class := { plain "java/lang/Cloneable" (some 0) with
  accessFlags := 1537
  interfaces := #[]
  cf := some (fileOf pool14 2 #[] #[] 1537 4 #[] #[])
  fields := #[]
  methods := #[]
  instanceTypes := #[]
  staticTypes := #[]
  resolved := Array.replicate 8 none
  statics := none }

/-- the primitive byte -/
def k15 : Class := { plain "byte" none with kind := .primitive 'B', accessFlags := 0x411 }
/-- [B -/
def k16 : Class := { plain "[B" (some 0) with kind := .array 15 .byte, interfaces := #[14, 2], accessFlags := 1041 }

/-- the primitive int -/
def k17 : Class := { plain "int" none with kind := .primitive 'I', accessFlags := 0x411 }
/-- [I -/
def k18 : Class := { plain "[I" (some 0) with kind := .array 17 .int, interfaces := #[14, 2], accessFlags := 1041 }

def heap : Heap := #[{ cls := 7, slots := #[.long 0, .int 1, .null, .int 0, .null, .int 0, .int 0], vm := .statics 7 },
  { cls := 12, slots := #[.null, .null, .null], vm := .statics 12 }]
def classes : Array Class := #[k0, k1, k2, k3, k4, k5, k6, k7, k8, k9, k10, k11, k12, k13, k14, k15, k16, k17, k18]
def interned : List (Array UInt16 × Addr) := []
def slotsUsed : Nat := 10
def theMethod : MethodId := ⟨1, 2⟩
def args0 : Array Value := #[.int 1, .int 2, .int 3, .int 4, .int 0, .int 65]
def aboutOver (below : List Frame) : State where
  vm := { classes := classes, interned := interned.toArray }
  heap := heap
  slotsUsed := slotsUsed
  threads := #[{ frames := .invoking theMethod args0 :: below }]
def below0 : List Frame := [.native { method := ⟨0, 0⟩, args := #[] }]
def about1 : State := aboutOver below0
def p0 : Program := .bare "" "" ""
def e0 : Env := launch0.env 0 0 0
theorem w_frames : about1.frames = Frame.invoking theMethod args0 :: below0 := rfl
set_option maxRecDepth 65536 in
theorem w_args : argsFit about1.vm theMethod args0 = true := by decide +kernel
set_option maxRecDepth 65536 in
theorem w_heap : heapFits about1 = true := by decide +kernel
set_option maxRecDepth 65536 in
theorem w_runnable : about1.curStatus? = some .runnable := by decide +kernel
set_option maxRecDepth 65536 in
theorem w_alone : about1.alone = true := by decide +kernel
set_option maxRecDepth 65536 in
theorem w_named : about1.methodNamed? x = some theMethod := by decide +kernel
set_option maxRecDepth 65536 in
theorem w_hears : about1.hears theMethod below0 = true := by decide +kernel
set_option maxRecDepth 65536 in
theorem w_ripe : about1.ripe theMethod args0 below0 = true := by decide +kernel
theorem w_running : about1.status = .running := rfl
set_option maxRecDepth 65536 in
theorem w_room : about1.hasRoom e0.platform room_1 = true :=
  launch0.hasRoom_least _ room_1 (by decide +kernel) (by decide +kernel) (by decide +kernel) (by decide +kernel) (by decide +kernel) (by decide +kernel)
theorem allAtoms_all (ts : List Jvm.Cond) (a : Array Jvm.Value) (st : Jvm.State) : (allAtoms ts).before a st = ts.all (fun c => c.before a st) := by
  induction ts with
  | nil => rfl
  | cons c t ih =>
    show (Jvm.Cond.and c (allAtoms t)).before a st = _
    rw [Jvm.Cond.before_and, ih, List.all_cons]
def words1 : List Jvm.Cond := Jvm.Cond.code x code maxLocals ret :: tables_1
/-- a 'code' word, met by the world's own term for the bytes: nothing is compared byte by byte -/
theorem code_word {y : MethodName} {bytes : ByteArray} {mx : Nat} {rt : Option FieldType} {a : Array Value} {s : State} {m : MethodId} {meth : Method} {c : Code} (h1 : s.methodNamed? y = some m) (h2 : s.vm.method? m = some meth) (h3 : meth.code = some c) (h4 : c.code = bytes)
    (h5 : (c.maxLocals == mx && c.exceptionTable.isEmpty && decide (c.maxStack ≤ mostOperands) && decide (meth.sig.returnType = rt) && !meth.locks && decide (parseMethodDescriptor y.desc = some meth.sig)) = true) : (Jvm.Cond.code y bytes mx rt).before a s = true := by
  simp only [Bool.and_eq_true, beq_iff_eq, Bool.not_eq_true', decide_eq_true_eq] at h5
  obtain ⟨⟨⟨⟨⟨g1, g2⟩, g3⟩, g4⟩, g5⟩, g6⟩ := h5
  simp [Cond.before, Cond.holds, Cond.value, h1, h2, h3, h4, g1, g2, g3, g4, g5, g6]
def isCode : Jvm.Cond → Bool
  | .code _ _ _ _ => true
  | _ => false
theorem all_split {L : List Jvm.Cond} {P : Jvm.Cond → Bool} (h1 : L.all (fun c => isCode c || P c) = true) (h2 : ∀ c ∈ L.filter isCode, P c = true) : L.all P = true := by
  refine List.all_eq_true.mpr fun c hc => ?_
  have h := List.all_eq_true.mp h1 c hc
  rcases Bool.eq_false_or_eq_true (isCode c) with hi | hi
  · exact h2 c (List.mem_filter.mpr ⟨hc, hi⟩)
  · simpa [hi] using h
set_option maxRecDepth 65536 in
theorem w_c0 : (Jvm.Cond.code x code maxLocals ret).before args0 about1 = true := code_word (m := ⟨1, 2⟩) (meth := k1m2) (c := k1c2) (by decide +kernel) rfl rfl rfl (by decide +kernel)
set_option maxRecDepth 65536 in
theorem w_c1 : (Jvm.Cond.code ({ cls := "java/lang/String", name := "valueOf", desc := "(C)Ljava/lang/String;" } : Jvm.MethodName) jdk_42_method_139_code (1 : Nat) (Option.some (Jvm.ClassFile.FieldType.object "java/lang/String"))).before args0 about1 = true := code_word (m := ⟨7, 1⟩) (meth := k7m1) (c := k7c1) (by decide +kernel) rfl rfl rfl (by decide +kernel)
set_option maxRecDepth 65536 in
theorem w_c2 : (Jvm.Cond.code ({ cls := "java/lang/StringLatin1", name := "canEncode", desc := "(C)Z" } : Jvm.MethodName) jdk_43_method_3_code (1 : Nat) (Option.some Jvm.ClassFile.FieldType.boolean)).before args0 about1 = true := code_word (m := ⟨8, 1⟩) (meth := k8m1) (c := k8c1) (by decide +kernel) rfl rfl rfl (by decide +kernel)
set_option maxRecDepth 65536 in
theorem w_c3 : (Jvm.Cond.code ({ cls := "java/lang/StringLatin1", name := "toBytes", desc := "(C)[B" } : Jvm.MethodName) jdk_43_method_46_code (1 : Nat) (Option.some (Jvm.ClassFile.FieldType.array Jvm.ClassFile.FieldType.byte))).before args0 about1 = true := code_word (m := ⟨8, 2⟩) (meth := k8m2) (c := k8c2) (by decide +kernel) rfl rfl rfl (by decide +kernel)
set_option maxRecDepth 65536 in
theorem w_c4 : (Jvm.Cond.code ({ cls := "java/lang/String", name := "<init>", desc := "([BB)V" } : Jvm.MethodName) jdk_42_method_151_code (3 : Nat) (Option.none : Option Jvm.ClassFile.FieldType)).before args0 about1 = true := code_word (m := ⟨7, 2⟩) (meth := k7m2) (c := k7c2) (by decide +kernel) rfl rfl rfl (by decide +kernel)
set_option maxRecDepth 65536 in
theorem w_c5 : (Jvm.Cond.code ({ cls := "java/lang/Object", name := "<init>", desc := "()V" } : Jvm.MethodName) object_method_1_code (1 : Nat) (Option.none : Option Jvm.ClassFile.FieldType)).before args0 about1 = true := code_word (m := ⟨0, 0⟩) (meth := k0m0) (c := k0c0) (by decide +kernel) rfl rfl rfl (by decide +kernel)
set_option maxRecDepth 65536 in
theorem w_c6 : (Jvm.Cond.code ({ cls := "com/example/edgbaston/edgbaston/source/Location", name := "<init>", desc := "(Ljava/lang/String;II)V" } : Jvm.MethodName) prog_54_method_1_code (4 : Nat) (Option.none : Option Jvm.ClassFile.FieldType)).before args0 about1 = true := code_word (m := ⟨10, 0⟩) (meth := k10m0) (c := k10c0) (by decide +kernel) rfl rfl rfl (by decide +kernel)
set_option maxRecDepth 65536 in
theorem w_c7 : (Jvm.Cond.code ({ cls := "java/lang/Record", name := "<init>", desc := "()V" } : Jvm.MethodName) jdk_30_method_1_code (1 : Nat) (Option.none : Option Jvm.ClassFile.FieldType)).before args0 about1 = true := code_word (m := ⟨9, 0⟩) (meth := k9m0) (c := k9c0) (by decide +kernel) rfl rfl rfl (by decide +kernel)
set_option maxRecDepth 65536 in
theorem w_c8 : (Jvm.Cond.code ({ cls := "java/util/Objects", name := "requireNonNull", desc := "(Ljava/lang/Object;Ljava/lang/String;)Ljava/lang/Object;" } : Jvm.MethodName) jdk_31_method_11_code (2 : Nat) (Option.some (Jvm.ClassFile.FieldType.object "java/lang/Object"))).before args0 about1 = true := code_word (m := ⟨11, 1⟩) (meth := k11m1) (c := k11c1) (by decide +kernel) rfl rfl rfl (by decide +kernel)
set_option maxRecDepth 65536 in
theorem w_c9 : (Jvm.Cond.code ({ cls := "com/example/edgbaston/edgbaston/source/Location", name := "isBefore", desc := "(Lcom/example/edgbaston/edgbaston/source/Location;)Z" } : Jvm.MethodName) prog_54_method_2_code (2 : Nat) (Option.some Jvm.ClassFile.FieldType.boolean)).before args0 about1 = true := code_word (m := ⟨10, 1⟩) (meth := k10m1) (c := k10c1) (by decide +kernel) rfl rfl rfl (by decide +kernel)
set_option maxRecDepth 65536 in
theorem w_c10 : (Jvm.Cond.code ({ cls := "com/example/edgbaston/edgbaston/source/LocationIsBeforePinLaw", name := "key", desc := "(II)J" } : Jvm.MethodName) method_2_code (2 : Nat) (Option.some Jvm.ClassFile.FieldType.long)).before args0 about1 = true := code_word (m := ⟨1, 1⟩) (meth := k1m1) (c := k1c1) (by decide +kernel) rfl rfl rfl (by decide +kernel)
def codes1 : List Jvm.Cond := [Jvm.Cond.code x code maxLocals ret, Jvm.Cond.code ({ cls := "java/lang/String", name := "valueOf", desc := "(C)Ljava/lang/String;" } : Jvm.MethodName) jdk_42_method_139_code (1 : Nat) (Option.some (Jvm.ClassFile.FieldType.object "java/lang/String")), Jvm.Cond.code ({ cls := "java/lang/StringLatin1", name := "canEncode", desc := "(C)Z" } : Jvm.MethodName) jdk_43_method_3_code (1 : Nat) (Option.some Jvm.ClassFile.FieldType.boolean), Jvm.Cond.code ({ cls := "java/lang/StringLatin1", name := "toBytes", desc := "(C)[B" } : Jvm.MethodName) jdk_43_method_46_code (1 : Nat) (Option.some (Jvm.ClassFile.FieldType.array Jvm.ClassFile.FieldType.byte)), Jvm.Cond.code ({ cls := "java/lang/String", name := "<init>", desc := "([BB)V" } : Jvm.MethodName) jdk_42_method_151_code (3 : Nat) (Option.none : Option Jvm.ClassFile.FieldType), Jvm.Cond.code ({ cls := "java/lang/Object", name := "<init>", desc := "()V" } : Jvm.MethodName) object_method_1_code (1 : Nat) (Option.none : Option Jvm.ClassFile.FieldType), Jvm.Cond.code ({ cls := "com/example/edgbaston/edgbaston/source/Location", name := "<init>", desc := "(Ljava/lang/String;II)V" } : Jvm.MethodName) prog_54_method_1_code (4 : Nat) (Option.none : Option Jvm.ClassFile.FieldType), Jvm.Cond.code ({ cls := "java/lang/Record", name := "<init>", desc := "()V" } : Jvm.MethodName) jdk_30_method_1_code (1 : Nat) (Option.none : Option Jvm.ClassFile.FieldType), Jvm.Cond.code ({ cls := "java/util/Objects", name := "requireNonNull", desc := "(Ljava/lang/Object;Ljava/lang/String;)Ljava/lang/Object;" } : Jvm.MethodName) jdk_31_method_11_code (2 : Nat) (Option.some (Jvm.ClassFile.FieldType.object "java/lang/Object")), Jvm.Cond.code ({ cls := "com/example/edgbaston/edgbaston/source/Location", name := "isBefore", desc := "(Lcom/example/edgbaston/edgbaston/source/Location;)Z" } : Jvm.MethodName) prog_54_method_2_code (2 : Nat) (Option.some Jvm.ClassFile.FieldType.boolean), Jvm.Cond.code ({ cls := "com/example/edgbaston/edgbaston/source/LocationIsBeforePinLaw", name := "key", desc := "(II)J" } : Jvm.MethodName) method_2_code (2 : Nat) (Option.some Jvm.ClassFile.FieldType.long)]
set_option maxRecDepth 65536 in
theorem codes_eq : words1.filter isCode = codes1 := rfl
theorem w_codes : ∀ c ∈ words1.filter isCode, c.before args0 about1 = true := by
  rw [codes_eq]
  intro c hc
  simp only [codes1, List.mem_cons, List.not_mem_nil, or_false] at hc
  rcases hc with rfl | rfl | rfl | rfl | rfl | rfl | rfl | rfl | rfl | rfl | rfl
  · exact w_c0
  · exact w_c1
  · exact w_c2
  · exact w_c3
  · exact w_c4
  · exact w_c5
  · exact w_c6
  · exact w_c7
  · exact w_c8
  · exact w_c9
  · exact w_c10
set_option maxRecDepth 65536 in
theorem w_t1 : (words1.take 24).all (fun c => isCode c || c.before args0 about1) = true := by decide +kernel
set_option maxRecDepth 65536 in
theorem w_t2 : ((words1.drop 24).take 24).all (fun c => isCode c || c.before args0 about1) = true := by decide +kernel
set_option maxRecDepth 65536 in
theorem w_t3 : ((words1.drop 24).drop 24).all (fun c => isCode c || c.before args0 about1) = true := by decide +kernel
theorem w_tables : (allAtoms (Jvm.Cond.code x code maxLocals ret :: tables_1)).before args0 about1 = true := by
  rw [allAtoms_all]
  show words1.all (fun c => c.before args0 about1) = true
  refine all_split ?_ w_codes
  rw [← List.take_append_drop 24 words1, List.all_append, w_t1, ← List.take_append_drop 24 (words1.drop 24), List.all_append, w_t2, w_t3]
  rfl
set_option maxRecDepth 65536 in
theorem w_rest : rest_1_c.before args0 about1 = true := by decide +kernel
set_option maxRecDepth 65536 in
theorem w_case : (Jvm.Cond.and given_1 narrow_1).before args0 about1 = true := by decide +kernel
theorem w_applies : (headSpec (Jvm.Cond.code x code maxLocals ret :: tables_1) room_1).applies x e0.platform about1 = true :=
  (Spec.applies_iff w_frames).mpr ⟨w_running, w_runnable, w_alone, w_named, w_hears, w_ripe, w_room, w_tables⟩
theorem atStart : AtStart classFile x code maxLocals ret World_1 tables_1 room_1 Calls_1 rest_1 Pre_1 launch0 p0 e0 about1 theMethod args0 below0 :=
  ⟨lists_1, trivial, launch0.admits_env _ _ _, launch0.least_env, fairChoices_fair.cas, fairChoices_fair.clock, w_frames, w_args, w_heap, w_applies, trivial, w_rest, w_case⟩
end start1
theorem witness_1 : WitnessClaimed_1 := ⟨start1.p0, start1.e0, start1.about1, start1.theMethod, start1.args0, start1.below0, start1.atStart⟩
end Jvm.Pilot.@@N@@
