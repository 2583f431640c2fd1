import JvmDerived
import JvmDerived.Pilot.@@N@@Statement
import JvmDerived.Pilot.@@N@@Code
set_option linter.unusedVariables false
set_option linter.unusedSimpArgs false
namespace Jvm.RoadKit
open Sem ClassFile Op Lib Jvm.Stand Jvm.Free Jvm.LawKit
section New
variable {p : Program} {l : Launch} {e : Env} {R : Room} {s : State} {m : MethodId} {args : Array Value} {below : List Frame} {meth : Method} {c : Code} {T : State} {locs : List Loc} {cells slots : Nat}
theorem retI (X : Stand p l e R s m args below meth c T locs cells slots) (hx : p.tables.exec = Jvm.exec) {pc : Nat} {Ls : Array Slot} {z : Int32} {rest : List Value} (hret : meth.sig.returnType = some .int) (hd : decode c.code pc = .ok (.ireturn, 1)) {fs : List Frame}
    (hl : ∀ (f : JFrame) (acts : List Action), f.method = m → f.locked = none → f.entered = [] → (doReturn e (T.setTop f) acts (some (.int z))).1 = T.setFrames fs) : Steps p.tables e below (T.setTop (mkF m pc Ls (.int z :: rest))) (T.setFrames fs) := by
  have hm' : T.vm.method? m = some meth := X.method'
  have hn : narrow .int (.int z) = .int z := rfl
  show Steps p.tables e below (T.setTop { method := m, pc := pc, locals := Ls, stack := _ :: rest, locked := none }) _
  jvm_step X.here [X.here.top, hx, hd, hm', hret, hn]
  first | (intro acts; rw [hl _ acts rfl rfl rfl]) | rw [hl _ _ rfl rfl rfl]
  exact Steps.refl _
end New
end Jvm.RoadKit
namespace Jvm.Pilot.@@N@@
open Jvm Jvm.ClassFile Sem Op Lib Jvm.Free Jvm.Stand Jvm.LawKit Jvm.RoadKit Bundle Jvm.Pilot.@@N@@.Jvm.D
theorem own_pn0 : plainName "com/example/nanshe/nanshe/engine/RequestEqualsPinLaw" = true := by first | (simp [plainName, overriddenIn]; done) | decide +kernel
theorem own_pn29 : plainName "java/lang/StringUTF16" = true := by first | (simp [plainName, overriddenIn]; done) | decide +kernel
theorem own_pd61 : parseMethodDescriptor "([CI[BII)I" = some ⟨[(.array .char), .int, (.array .byte), .int, .int], some .int⟩ := by decide +kernel
theorem own_pd77 : parseMethodDescriptor "([CII)[B" = some ⟨[(.array .char), .int, .int], some (.array .byte)⟩ := by decide +kernel
theorem own_pd78 : parseMethodDescriptor "([BI)B" = some ⟨[(.array .byte), .int], some .byte⟩ := by decide +kernel
theorem own_pn79 : plainName "java/lang/String" = true := by first | (simp [plainName, overriddenIn]; done) | decide +kernel
theorem own_pd100 : parseMethodDescriptor "([CIILjava/lang/Void;)V" = some ⟨[(.array .char), .int, .int, (.object "java/lang/Void")], none⟩ := by decide +kernel
theorem own_pd109 : parseMethodDescriptor "(I)I" = some ⟨[.int], some .int⟩ := by decide +kernel
theorem own_pd110 : parseMethodDescriptor "(I)C" = some ⟨[.int], some .char⟩ := by decide +kernel
theorem own_pd111 : parseMethodDescriptor "([C)V" = some ⟨[(.array .char)], none⟩ := by decide +kernel
theorem own_pd163 : parseMethodDescriptor "()B" = some ⟨[], some .byte⟩ := by decide +kernel
theorem own_pn177 : plainName "jdk/internal/util/Preconditions" = true := by first | (simp [plainName, overriddenIn]; done) | decide +kernel
theorem own_pd185 : parseMethodDescriptor "(IILjava/util/function/BiFunction;)I" = some ⟨[.int, .int, (.object "java/util/function/BiFunction")], some .int⟩ := by decide +kernel
theorem own_pd192 : parseMethodDescriptor "(II)V" = some ⟨[.int, .int], none⟩ := by decide +kernel
theorem own_pn193 : plainName "java/lang/StringLatin1" = true := by first | (simp [plainName, overriddenIn]; done) | decide +kernel
theorem own_pd205 : parseMethodDescriptor "()Z" = some ⟨[], some .boolean⟩ := by decide +kernel
theorem own_pd206 : parseMethodDescriptor "([BI)C" = some ⟨[(.array .byte), .int], some .char⟩ := by decide +kernel
theorem own_pn215 : plainName "java/lang/Character" = true := by first | (simp [plainName, overriddenIn]; done) | decide +kernel
theorem own_pd226 : parseMethodDescriptor "()I" = some ⟨[], some .int⟩ := by decide +kernel
theorem own_pn227 : plainName "com/example/nanshe/nanshe/engine/Request" = true := by first | (simp [plainName, overriddenIn]; done) | decide +kernel
theorem own_pd251 : parseMethodDescriptor "(C)Z" = some ⟨[.char], some .boolean⟩ := by decide +kernel
theorem own_pd284 : parseMethodDescriptor "(Ljava/lang/String;)I" = some ⟨[(.object "java/lang/String")], some .int⟩ := by decide +kernel
theorem own_pn294 : plainName "java/util/Objects" = true := by first | (simp [plainName, overriddenIn]; done) | decide +kernel
theorem own_pd299 : parseMethodDescriptor "(Ljava/lang/Object;Ljava/lang/String;)Ljava/lang/Object;" = some ⟨[(.object "java/lang/Object"), (.object "java/lang/String")], some (.object "java/lang/Object")⟩ := by decide +kernel
theorem own_pd300 : parseMethodDescriptor "(Ljava/lang/String;)Z" = some ⟨[(.object "java/lang/String")], some .boolean⟩ := by decide +kernel
theorem own_pd301 : parseMethodDescriptor "(Ljava/lang/String;Ljava/lang/String;)Ljava/lang/String;" = some ⟨[(.object "java/lang/String"), (.object "java/lang/String")], some (.object "java/lang/String")⟩ := by decide +kernel
theorem own_wS {a0 : Array Value} {Z : State} (hw : ∀ d ∈ tables_1, d.before a0 Z = true) : ∀ a ∈ Bundle.stringAtoms, a.before a0 Z = true := by
  intro d hd
  simp only [Bundle.stringAtoms, List.mem_cons, List.not_mem_nil, or_false] at hd
  rcases hd with rfl | rfl | rfl | rfl | rfl | rfl | rfl
  · exact hw _ (List.mem_of_getElem? (i := 16) rfl)
  · exact hw _ (List.mem_of_getElem? (i := 15) rfl)
  · exact hw _ (List.mem_of_getElem? (i := 32) rfl)
  · exact hw _ (List.mem_of_getElem? (i := 42) rfl)
  · exact hw _ (List.mem_of_getElem? (i := 40) rfl)
  · exact hw _ (List.mem_of_getElem? (i := 48) rfl)
  · exact hw _ (List.mem_of_getElem? (i := 49) rfl)
theorem own_pd358 : parseMethodDescriptor "([B[B)Z" = some ⟨[(.array .byte), (.array .byte)], some .boolean⟩ := by decide +kernel
theorem own_pd385 : parseMethodDescriptor "(Ljava/lang/Object;)Z" = some ⟨[(.object "java/lang/Object")], some .boolean⟩ := by decide +kernel
theorem own_pd458 : parseMethodDescriptor "(I)Ljava/lang/String;" = some ⟨[.int], some (.object "java/lang/String")⟩ := by decide +kernel
theorem own_pd459 : parseMethodDescriptor "(Ljava/lang/String;Ljava/lang/String;Ljava/lang/String;)V" = some ⟨[(.object "java/lang/String"), (.object "java/lang/String"), (.object "java/lang/String")], none⟩ := by decide +kernel
theorem own_pd460 : parseMethodDescriptor "(II)Z" = some ⟨[.int, .int], some .boolean⟩ := by decide +kernel
-- body 2
theorem own_d2_0 : decode method_4_code 0 = .ok (.iconst 1, 1) := by decide +kernel
theorem own_d2_1 : decode method_4_code 1 = .ok (.iload_n 0, 1) := by decide +kernel
theorem own_d2_2 : decode method_4_code 2 = .ok (.bipush 16, 2) := by decide +kernel
theorem own_d2_4 : decode method_4_code 4 = .ok (.iushr, 1) := by decide +kernel
theorem own_d2_5 : decode method_4_code 5 = .ok (.iconst 1, 1) := by decide +kernel
theorem own_d2_6 : decode method_4_code 6 = .ok (.iand, 1) := by decide +kernel
theorem own_d2_7 : decode method_4_code 7 = .ok (.iadd, 1) := by decide +kernel
theorem own_d2_8 : decode method_4_code 8 = .ok (.ireturn, 1) := by decide +kernel
theorem own_ef2 (m : MethodId) (x0 : Int32) : entryFrame m #[(.int x0)] 1 = mkF m 0 #[.val (.int x0)] [] := by first | (simp [entryFrame, mkF, argsToLocals, Value.category]; done) | rfl
def own_f2 (p1 : Int32) : Int32 := ((1 : Int32) + (((p1.toUInt32 >>> ((16 : Int32) &&& 31).toUInt32).toInt32) &&& (1 : Int32)))
def own_Q2 (Z : State) (p1 : Int32) (h0 : Heap) (n0 : Nat) (v : Option Value) (h : Heap) (L : List Loc) : Prop := v = some (.int (own_f2 p1)) ∧ Fr n0 L ∧ h = h0
set_option maxRecDepth 65536 in
set_option maxHeartbeats 40000000 in
theorem own_rm2 (l : Launch) (Z : State) (a0 : Array Value) (hw : ∀ d ∈ tables_1, d.before a0 Z = true) (ws : List Jvm.Cond) (p1 : Int32) (h0 : Heap) (n0 : Nat) (Z0 : n0 ≤ h0.size) :
    MetFree l (⟨"com/example/nanshe/nanshe/engine/RequestEqualsPinLaw", "len", "(I)I"⟩ : MethodName) (head1 (Jvm.Cond.code (⟨"com/example/nanshe/nanshe/engine/RequestEqualsPinLaw", "len", "(I)I"⟩ : MethodName) method_4_code 1 (some .int) :: ws) ({ frames := 0, cells := 0, slots := 0, locals := 0 } : Room)) (fun a U => a = #[(.int p1)] ∧ Z.Warmed39 U.vm ∧ U.heap = h0) (fun _ _ _ _ _ => True) (fun _ U o U' => ∃ v L, o = .returned v ∧ own_Q2 Z p1 h0 n0 v U'.heap L ∧ FrameEnd U o U' L ({ frames := 0, cells := 0, slots := 0, locals := 0 } : Room).cells ({ frames := 0, cells := 0, slots := 0, locals := 0 } : Room).slots) := by
  refine MetFree.of_bodySF (plainFor_of_name own_pn0) hisR ?_
  intro p e s m args below meth c s₁ Bd hml0 hP hK
  obtain ⟨rfl, hZ, hh⟩ := hP
  have hx := Bd.exec
  have hby := Bd.bytes
  have hml : c.maxLocals = 1 := hml0
  have hown : s.vm.findClass "com/example/nanshe/nanshe/engine/RequestEqualsPinLaw" = some m.cls := findClass_of_methodNamed Bd.named
  have hnm := (name_of_methodNamed Bd.named Bd.method).1
  have X0 : Stand p l e ({ frames := 0, cells := 0, slots := 0, locals := 0 } : Room) s m #[(.int p1)] below meth c s₁ [] 0 0 := Stand.of_body Bd
  have hS0 : s.Since s.vm 0 := (State.WarmedH.refl s).since 0
  have hk0 : 0 ≤ h0.size := Nat.zero_le _
  have hlk := Bd.notSynchronized
  have e0 : s₁.heap = h0 := by rw [← hh, Bd.state]; rfl
  have N0 := Fr.nil n0
  have pre0 : ∀ t, Steps p.tables e below (s₁.setTop (mkF m 0 #[.val (.int p1)] [])) t → Steps p.tables e below (s₁.setTop (entryFrame m #[(.int p1)] 1)) t := fun t k => castTop (own_ef2 m p1) k
  obtain ⟨fs, hr, hrun, hended, hW, hsame⟩ := X0.leave (hlocks := hlk) (v := some (.int ((1 : Int32) + (((p1.toUInt32 >>> ((16 : Int32) &&& 31).toUInt32).toInt32) &&& (1 : Int32))))) (fun h => by rw [Bd.returns] at h; cases h)
  refine ⟨_, _, pre0 _ ?_, hrun, hended, _, _, rfl, ?_, ⟨_, rfl⟩, hW, hsame.mono (by decide) (by decide)⟩
  · show Steps p.tables e below (s₁.setTop (mkF m 0 #[.val (.int p1)] [])) _
    refine XS.iconst X0.here hx rfl (hb hby own_d2_0) ?_
    show Steps p.tables e below (s₁.setTop (mkF m 1 #[.val (.int p1)] [(.int (1 : Int32))])) _
    refine XS.iloadN X0.here hx rfl (hb hby own_d2_1) rfl ?_
    show Steps p.tables e below (s₁.setTop (mkF m 2 #[.val (.int p1)] [(.int p1), (.int (1 : Int32))])) _
    refine XS.bipush X0.here hx rfl (hb hby own_d2_2) ?_
    show Steps p.tables e below (s₁.setTop (mkF m 4 #[.val (.int p1)] [(.int (16 : Int32)), (.int p1), (.int (1 : Int32))])) _
    refine XS.iushr X0.here hx rfl (hb hby own_d2_4) rfl ?_
    show Steps p.tables e below (s₁.setTop (mkF m 5 #[.val (.int p1)] [(.int ((p1.toUInt32 >>> ((16 : Int32) &&& 31).toUInt32).toInt32)), (.int (1 : Int32))])) _
    refine XS.iconst X0.here hx rfl (hb hby own_d2_5) ?_
    show Steps p.tables e below (s₁.setTop (mkF m 6 #[.val (.int p1)] [(.int (1 : Int32)), (.int ((p1.toUInt32 >>> ((16 : Int32) &&& 31).toUInt32).toInt32)), (.int (1 : Int32))])) _
    refine XS.iand X0.here hx rfl (hb hby own_d2_6) rfl ?_
    show Steps p.tables e below (s₁.setTop (mkF m 7 #[.val (.int p1)] [(.int (((p1.toUInt32 >>> ((16 : Int32) &&& 31).toUInt32).toInt32) &&& (1 : Int32))), (.int (1 : Int32))])) _
    refine XS.iadd X0.here hx rfl (hb hby own_d2_7) rfl ?_
    show Steps p.tables e below (s₁.setTop (mkF m 8 #[.val (.int p1)] [(.int ((1 : Int32) + (((p1.toUInt32 >>> ((16 : Int32) &&& 31).toUInt32).toInt32) &&& (1 : Int32))))])) _
    exact retI X0 hx Bd.returns (hb hby own_d2_8) hr
  · show own_Q2 Z p1 h0 n0 _ s₁.heap _
    rw [e0]
    exact ⟨(by rw [own_f2]), N0, rfl⟩
-- body 3
theorem own_d3_0 : decode method_3_code 0 = .ok (.iload_n 0, 1) := by decide +kernel
theorem own_d3_1 : decode method_3_code 1 = .ok (.sipush 255, 3) := by decide +kernel
theorem own_d3_4 : decode method_3_code 4 = .ok (.iand, 1) := by decide +kernel
theorem own_d3_5 : decode method_3_code 5 = .ok (.istore_n 1, 1) := by decide +kernel
theorem own_d3_6 : decode method_3_code 6 = .ok (.iload_n 1, 1) := by decide +kernel
theorem own_d3_7 : decode method_3_code 7 = .ok (.bipush 9, 2) := by decide +kernel
theorem own_d3_9 : decode method_3_code 9 = .ok (.if_icmp .eq 15, 3) := by decide +kernel
theorem own_d3_12 : decode method_3_code 12 = .ok (.iload_n 1, 1) := by decide +kernel
theorem own_d3_13 : decode method_3_code 13 = .ok (.bipush 10, 2) := by decide +kernel
theorem own_d3_15 : decode method_3_code 15 = .ok (.if_icmp .eq 9, 3) := by decide +kernel
theorem own_d3_18 : decode method_3_code 18 = .ok (.iload_n 1, 1) := by decide +kernel
theorem own_d3_19 : decode method_3_code 19 = .ok (.bipush 32, 2) := by decide +kernel
theorem own_d3_21 : decode method_3_code 21 = .ok (.if_icmp .ne 8, 3) := by decide +kernel
theorem own_d3_24 : decode method_3_code 24 = .ok (.iload_n 1, 1) := by decide +kernel
theorem own_d3_25 : decode method_3_code 25 = .ok (.bipush 64, 2) := by decide +kernel
theorem own_d3_27 : decode method_3_code 27 = .ok (.iadd, 1) := by decide +kernel
theorem own_d3_28 : decode method_3_code 28 = .ok (.istore_n 1, 1) := by decide +kernel
theorem own_d3_29 : decode method_3_code 29 = .ok (.iload_n 1, 1) := by decide +kernel
theorem own_d3_30 : decode method_3_code 30 = .ok (.i2c, 1) := by decide +kernel
theorem own_d3_31 : decode method_3_code 31 = .ok (.ireturn, 1) := by decide +kernel
theorem own_ef3 (m : MethodId) (x0 : Int32) : entryFrame m #[(.int x0)] 2 = mkF m 0 #[.val (.int x0), .unset] [] := by first | (simp [entryFrame, mkF, argsToLocals, Value.category]; done) | rfl
def own_f3 (p1 : Int32) : Int32 := if (p1 &&& (255 : Int32)) = (9 : Int32) then (nar .char (((p1 &&& (255 : Int32)) + (64 : Int32)).toUInt32.toUInt16.toUInt32.toInt32))
    else if (p1 &&& (255 : Int32)) = (10 : Int32) then (nar .char (((p1 &&& (255 : Int32)) + (64 : Int32)).toUInt32.toUInt16.toUInt32.toInt32))
      else if (p1 &&& (255 : Int32)) = (32 : Int32) then (nar .char (((p1 &&& (255 : Int32)) + (64 : Int32)).toUInt32.toUInt16.toUInt32.toInt32))
        else (nar .char ((p1 &&& (255 : Int32)).toUInt32.toUInt16.toUInt32.toInt32))
def own_Q3 (Z : State) (p1 : Int32) (h0 : Heap) (n0 : Nat) (v : Option Value) (h : Heap) (L : List Loc) : Prop := v = some (.int (own_f3 p1)) ∧ Fr n0 L ∧ h = h0
set_option maxRecDepth 65536 in
set_option maxHeartbeats 40000000 in
theorem own_rm3 (l : Launch) (Z : State) (a0 : Array Value) (hw : ∀ d ∈ tables_1, d.before a0 Z = true) (ws : List Jvm.Cond) (p1 : Int32) (h0 : Heap) (n0 : Nat) (Z0 : n0 ≤ h0.size) :
    MetFree l (⟨"com/example/nanshe/nanshe/engine/RequestEqualsPinLaw", "safe", "(I)C"⟩ : MethodName) (head1 (Jvm.Cond.code (⟨"com/example/nanshe/nanshe/engine/RequestEqualsPinLaw", "safe", "(I)C"⟩ : MethodName) method_3_code 2 (some .char) :: ws) ({ frames := 0, cells := 0, slots := 0, locals := 0 } : Room)) (fun a U => a = #[(.int p1)] ∧ Z.Warmed39 U.vm ∧ U.heap = h0) (fun _ _ _ _ _ => True) (fun _ U o U' => ∃ v L, o = .returned v ∧ own_Q3 Z p1 h0 n0 v U'.heap L ∧ FrameEnd U o U' L ({ frames := 0, cells := 0, slots := 0, locals := 0 } : Room).cells ({ frames := 0, cells := 0, slots := 0, locals := 0 } : Room).slots) := by
  refine MetFree.of_bodySF (plainFor_of_name own_pn0) hisR ?_
  intro p e s m args below meth c s₁ Bd hml0 hP hK
  obtain ⟨rfl, hZ, hh⟩ := hP
  have hx := Bd.exec
  have hby := Bd.bytes
  have hml : c.maxLocals = 2 := hml0
  have hown : s.vm.findClass "com/example/nanshe/nanshe/engine/RequestEqualsPinLaw" = some m.cls := findClass_of_methodNamed Bd.named
  have hnm := (name_of_methodNamed Bd.named Bd.method).1
  have X0 : Stand p l e ({ frames := 0, cells := 0, slots := 0, locals := 0 } : Room) s m #[(.int p1)] below meth c s₁ [] 0 0 := Stand.of_body Bd
  have hS0 : s.Since s.vm 0 := (State.WarmedH.refl s).since 0
  have hk0 : 0 ≤ h0.size := Nat.zero_le _
  have hlk := Bd.notSynchronized
  have e0 : s₁.heap = h0 := by rw [← hh, Bd.state]; rfl
  have N0 := Fr.nil n0
  have pre0 : ∀ t, Steps p.tables e below (s₁.setTop (mkF m 0 #[.val (.int p1), .unset] [])) t → Steps p.tables e below (s₁.setTop (entryFrame m #[(.int p1)] 2)) t := fun t k => castTop (own_ef3 m p1) k
  have k1 : ∀ t, Steps p.tables e below (s₁.setTop (mkF m 9 #[.val (.int p1), .val (.int (p1 &&& (255 : Int32)))] [(.int (9 : Int32)), (.int (p1 &&& (255 : Int32)))])) t → Steps p.tables e below (s₁.setTop (entryFrame m #[(.int p1)] 2)) t := by
    intro t kt
    refine pre0 t ?_
    show Steps p.tables e below (s₁.setTop (mkF m 0 #[.val (.int p1), .unset] [])) _
    refine XS.iloadN X0.here hx rfl (hb hby own_d3_0) rfl ?_
    show Steps p.tables e below (s₁.setTop (mkF m 1 #[.val (.int p1), .unset] [(.int p1)])) _
    refine XS.sipush X0.here hx rfl (hb hby own_d3_1) ?_
    show Steps p.tables e below (s₁.setTop (mkF m 4 #[.val (.int p1), .unset] [(.int (255 : Int32)), (.int p1)])) _
    refine XS.iand X0.here hx rfl (hb hby own_d3_4) rfl ?_
    show Steps p.tables e below (s₁.setTop (mkF m 5 #[.val (.int p1), .unset] [(.int (p1 &&& (255 : Int32)))])) _
    refine XS.istoreN X0.here hx rfl (hb hby own_d3_5) rfl (l' := #[.val (.int p1), .val (.int (p1 &&& (255 : Int32)))]) rfl ?_
    show Steps p.tables e below (s₁.setTop (mkF m 6 #[.val (.int p1), .val (.int (p1 &&& (255 : Int32)))] [])) _
    refine XS.iloadN X0.here hx rfl (hb hby own_d3_6) rfl ?_
    show Steps p.tables e below (s₁.setTop (mkF m 7 #[.val (.int p1), .val (.int (p1 &&& (255 : Int32)))] [(.int (p1 &&& (255 : Int32)))])) _
    refine XS.bipush X0.here hx rfl (hb hby own_d3_7) ?_
    exact kt
  by_cases hc1 : (p1 &&& (255 : Int32)) = (9 : Int32)
  ·
    obtain ⟨fs, hr, hrun, hended, hW, hsame⟩ := X0.leave (hlocks := hlk) (v := some (.int (nar .char (((p1 &&& (255 : Int32)) + (64 : Int32)).toUInt32.toUInt16.toUInt32.toInt32)))) (fun h => by rw [Bd.returns] at h; cases h)
    refine ⟨_, _, k1 _ ?_, hrun, hended, _, _, rfl, ?_, ⟨_, rfl⟩, hW, hsame.mono (by decide) (by decide)⟩
    · show Steps p.tables e below (s₁.setTop (mkF m 9 #[.val (.int p1), .val (.int (p1 &&& (255 : Int32)))] [(.int (9 : Int32)), (.int (p1 &&& (255 : Int32)))])) _
      refine XS.icmpYes X0.here hx rfl (pc0 := 9) (pc' := 24) rfl (hb hby own_d3_9) rfl (teq hc1).1 (by decide) (by decide) ?_
      show Steps p.tables e below (s₁.setTop (mkF m 24 #[.val (.int p1), .val (.int (p1 &&& (255 : Int32)))] [])) _
      refine XS.iloadN X0.here hx rfl (hb hby own_d3_24) rfl ?_
      show Steps p.tables e below (s₁.setTop (mkF m 25 #[.val (.int p1), .val (.int (p1 &&& (255 : Int32)))] [(.int (p1 &&& (255 : Int32)))])) _
      refine XS.bipush X0.here hx rfl (hb hby own_d3_25) ?_
      show Steps p.tables e below (s₁.setTop (mkF m 27 #[.val (.int p1), .val (.int (p1 &&& (255 : Int32)))] [(.int (64 : Int32)), (.int (p1 &&& (255 : Int32)))])) _
      refine XS.iadd X0.here hx rfl (hb hby own_d3_27) rfl ?_
      show Steps p.tables e below (s₁.setTop (mkF m 28 #[.val (.int p1), .val (.int (p1 &&& (255 : Int32)))] [(.int ((p1 &&& (255 : Int32)) + (64 : Int32)))])) _
      refine XS.istoreN X0.here hx rfl (hb hby own_d3_28) rfl (l' := #[.val (.int p1), .val (.int ((p1 &&& (255 : Int32)) + (64 : Int32)))]) rfl ?_
      show Steps p.tables e below (s₁.setTop (mkF m 29 #[.val (.int p1), .val (.int ((p1 &&& (255 : Int32)) + (64 : Int32)))] [])) _
      refine XS.iloadN X0.here hx rfl (hb hby own_d3_29) rfl ?_
      show Steps p.tables e below (s₁.setTop (mkF m 30 #[.val (.int p1), .val (.int ((p1 &&& (255 : Int32)) + (64 : Int32)))] [(.int ((p1 &&& (255 : Int32)) + (64 : Int32)))])) _
      refine XS.i2c X0.here hx rfl (hb hby own_d3_30) rfl ?_
      show Steps p.tables e below (s₁.setTop (mkF m 31 #[.val (.int p1), .val (.int ((p1 &&& (255 : Int32)) + (64 : Int32)))] [(.int (((p1 &&& (255 : Int32)) + (64 : Int32)).toUInt32.toUInt16.toUInt32.toInt32))])) _
      exact retN X0 hx (t := .char) Bd.returns (by simp) (hb hby own_d3_31) hr
    · show own_Q3 Z p1 h0 n0 _ s₁.heap _
      rw [e0]
      exact ⟨(by rw [own_f3, if_pos hc1]), N0, rfl⟩
  ·
    have k2 : ∀ t, Steps p.tables e below (s₁.setTop (mkF m 15 #[.val (.int p1), .val (.int (p1 &&& (255 : Int32)))] [(.int (10 : Int32)), (.int (p1 &&& (255 : Int32)))])) t → Steps p.tables e below (s₁.setTop (entryFrame m #[(.int p1)] 2)) t := by
      intro t kt
      refine k1 t ?_
      show Steps p.tables e below (s₁.setTop (mkF m 9 #[.val (.int p1), .val (.int (p1 &&& (255 : Int32)))] [(.int (9 : Int32)), (.int (p1 &&& (255 : Int32)))])) _
      refine XS.icmpNo X0.here hx rfl (hb hby own_d3_9) rfl (feq hc1).1 ?_
      show Steps p.tables e below (s₁.setTop (mkF m 12 #[.val (.int p1), .val (.int (p1 &&& (255 : Int32)))] [])) _
      refine XS.iloadN X0.here hx rfl (hb hby own_d3_12) rfl ?_
      show Steps p.tables e below (s₁.setTop (mkF m 13 #[.val (.int p1), .val (.int (p1 &&& (255 : Int32)))] [(.int (p1 &&& (255 : Int32)))])) _
      refine XS.bipush X0.here hx rfl (hb hby own_d3_13) ?_
      exact kt
    by_cases hc2 : (p1 &&& (255 : Int32)) = (10 : Int32)
    ·
      obtain ⟨fs, hr, hrun, hended, hW, hsame⟩ := X0.leave (hlocks := hlk) (v := some (.int (nar .char (((p1 &&& (255 : Int32)) + (64 : Int32)).toUInt32.toUInt16.toUInt32.toInt32)))) (fun h => by rw [Bd.returns] at h; cases h)
      refine ⟨_, _, k2 _ ?_, hrun, hended, _, _, rfl, ?_, ⟨_, rfl⟩, hW, hsame.mono (by decide) (by decide)⟩
      · show Steps p.tables e below (s₁.setTop (mkF m 15 #[.val (.int p1), .val (.int (p1 &&& (255 : Int32)))] [(.int (10 : Int32)), (.int (p1 &&& (255 : Int32)))])) _
        refine XS.icmpYes X0.here hx rfl (pc0 := 15) (pc' := 24) rfl (hb hby own_d3_15) rfl (teq hc2).1 (by decide) (by decide) ?_
        show Steps p.tables e below (s₁.setTop (mkF m 24 #[.val (.int p1), .val (.int (p1 &&& (255 : Int32)))] [])) _
        refine XS.iloadN X0.here hx rfl (hb hby own_d3_24) rfl ?_
        show Steps p.tables e below (s₁.setTop (mkF m 25 #[.val (.int p1), .val (.int (p1 &&& (255 : Int32)))] [(.int (p1 &&& (255 : Int32)))])) _
        refine XS.bipush X0.here hx rfl (hb hby own_d3_25) ?_
        show Steps p.tables e below (s₁.setTop (mkF m 27 #[.val (.int p1), .val (.int (p1 &&& (255 : Int32)))] [(.int (64 : Int32)), (.int (p1 &&& (255 : Int32)))])) _
        refine XS.iadd X0.here hx rfl (hb hby own_d3_27) rfl ?_
        show Steps p.tables e below (s₁.setTop (mkF m 28 #[.val (.int p1), .val (.int (p1 &&& (255 : Int32)))] [(.int ((p1 &&& (255 : Int32)) + (64 : Int32)))])) _
        refine XS.istoreN X0.here hx rfl (hb hby own_d3_28) rfl (l' := #[.val (.int p1), .val (.int ((p1 &&& (255 : Int32)) + (64 : Int32)))]) rfl ?_
        show Steps p.tables e below (s₁.setTop (mkF m 29 #[.val (.int p1), .val (.int ((p1 &&& (255 : Int32)) + (64 : Int32)))] [])) _
        refine XS.iloadN X0.here hx rfl (hb hby own_d3_29) rfl ?_
        show Steps p.tables e below (s₁.setTop (mkF m 30 #[.val (.int p1), .val (.int ((p1 &&& (255 : Int32)) + (64 : Int32)))] [(.int ((p1 &&& (255 : Int32)) + (64 : Int32)))])) _
        refine XS.i2c X0.here hx rfl (hb hby own_d3_30) rfl ?_
        show Steps p.tables e below (s₁.setTop (mkF m 31 #[.val (.int p1), .val (.int ((p1 &&& (255 : Int32)) + (64 : Int32)))] [(.int (((p1 &&& (255 : Int32)) + (64 : Int32)).toUInt32.toUInt16.toUInt32.toInt32))])) _
        exact retN X0 hx (t := .char) Bd.returns (by simp) (hb hby own_d3_31) hr
      · show own_Q3 Z p1 h0 n0 _ s₁.heap _
        rw [e0]
        exact ⟨(by rw [own_f3, if_neg hc1, if_pos hc2]), N0, rfl⟩
    ·
      have k3 : ∀ t, Steps p.tables e below (s₁.setTop (mkF m 21 #[.val (.int p1), .val (.int (p1 &&& (255 : Int32)))] [(.int (32 : Int32)), (.int (p1 &&& (255 : Int32)))])) t → Steps p.tables e below (s₁.setTop (entryFrame m #[(.int p1)] 2)) t := by
        intro t kt
        refine k2 t ?_
        show Steps p.tables e below (s₁.setTop (mkF m 15 #[.val (.int p1), .val (.int (p1 &&& (255 : Int32)))] [(.int (10 : Int32)), (.int (p1 &&& (255 : Int32)))])) _
        refine XS.icmpNo X0.here hx rfl (hb hby own_d3_15) rfl (feq hc2).1 ?_
        show Steps p.tables e below (s₁.setTop (mkF m 18 #[.val (.int p1), .val (.int (p1 &&& (255 : Int32)))] [])) _
        refine XS.iloadN X0.here hx rfl (hb hby own_d3_18) rfl ?_
        show Steps p.tables e below (s₁.setTop (mkF m 19 #[.val (.int p1), .val (.int (p1 &&& (255 : Int32)))] [(.int (p1 &&& (255 : Int32)))])) _
        refine XS.bipush X0.here hx rfl (hb hby own_d3_19) ?_
        exact kt
      by_cases hc3 : (p1 &&& (255 : Int32)) = (32 : Int32)
      ·
        obtain ⟨fs, hr, hrun, hended, hW, hsame⟩ := X0.leave (hlocks := hlk) (v := some (.int (nar .char (((p1 &&& (255 : Int32)) + (64 : Int32)).toUInt32.toUInt16.toUInt32.toInt32)))) (fun h => by rw [Bd.returns] at h; cases h)
        refine ⟨_, _, k3 _ ?_, hrun, hended, _, _, rfl, ?_, ⟨_, rfl⟩, hW, hsame.mono (by decide) (by decide)⟩
        · show Steps p.tables e below (s₁.setTop (mkF m 21 #[.val (.int p1), .val (.int (p1 &&& (255 : Int32)))] [(.int (32 : Int32)), (.int (p1 &&& (255 : Int32)))])) _
          refine XS.icmpNo X0.here hx rfl (hb hby own_d3_21) rfl (teq hc3).2 ?_
          show Steps p.tables e below (s₁.setTop (mkF m 24 #[.val (.int p1), .val (.int (p1 &&& (255 : Int32)))] [])) _
          refine XS.iloadN X0.here hx rfl (hb hby own_d3_24) rfl ?_
          show Steps p.tables e below (s₁.setTop (mkF m 25 #[.val (.int p1), .val (.int (p1 &&& (255 : Int32)))] [(.int (p1 &&& (255 : Int32)))])) _
          refine XS.bipush X0.here hx rfl (hb hby own_d3_25) ?_
          show Steps p.tables e below (s₁.setTop (mkF m 27 #[.val (.int p1), .val (.int (p1 &&& (255 : Int32)))] [(.int (64 : Int32)), (.int (p1 &&& (255 : Int32)))])) _
          refine XS.iadd X0.here hx rfl (hb hby own_d3_27) rfl ?_
          show Steps p.tables e below (s₁.setTop (mkF m 28 #[.val (.int p1), .val (.int (p1 &&& (255 : Int32)))] [(.int ((p1 &&& (255 : Int32)) + (64 : Int32)))])) _
          refine XS.istoreN X0.here hx rfl (hb hby own_d3_28) rfl (l' := #[.val (.int p1), .val (.int ((p1 &&& (255 : Int32)) + (64 : Int32)))]) rfl ?_
          show Steps p.tables e below (s₁.setTop (mkF m 29 #[.val (.int p1), .val (.int ((p1 &&& (255 : Int32)) + (64 : Int32)))] [])) _
          refine XS.iloadN X0.here hx rfl (hb hby own_d3_29) rfl ?_
          show Steps p.tables e below (s₁.setTop (mkF m 30 #[.val (.int p1), .val (.int ((p1 &&& (255 : Int32)) + (64 : Int32)))] [(.int ((p1 &&& (255 : Int32)) + (64 : Int32)))])) _
          refine XS.i2c X0.here hx rfl (hb hby own_d3_30) rfl ?_
          show Steps p.tables e below (s₁.setTop (mkF m 31 #[.val (.int p1), .val (.int ((p1 &&& (255 : Int32)) + (64 : Int32)))] [(.int (((p1 &&& (255 : Int32)) + (64 : Int32)).toUInt32.toUInt16.toUInt32.toInt32))])) _
          exact retN X0 hx (t := .char) Bd.returns (by simp) (hb hby own_d3_31) hr
        · show own_Q3 Z p1 h0 n0 _ s₁.heap _
          rw [e0]
          exact ⟨(by rw [own_f3, if_neg hc1, if_neg hc2, if_pos hc3]), N0, rfl⟩
      ·
        obtain ⟨fs, hr, hrun, hended, hW, hsame⟩ := X0.leave (hlocks := hlk) (v := some (.int (nar .char ((p1 &&& (255 : Int32)).toUInt32.toUInt16.toUInt32.toInt32)))) (fun h => by rw [Bd.returns] at h; cases h)
        refine ⟨_, _, k3 _ ?_, hrun, hended, _, _, rfl, ?_, ⟨_, rfl⟩, hW, hsame.mono (by decide) (by decide)⟩
        · show Steps p.tables e below (s₁.setTop (mkF m 21 #[.val (.int p1), .val (.int (p1 &&& (255 : Int32)))] [(.int (32 : Int32)), (.int (p1 &&& (255 : Int32)))])) _
          refine XS.icmpYes X0.here hx rfl (pc0 := 21) (pc' := 29) rfl (hb hby own_d3_21) rfl (feq hc3).2 (by decide) (by decide) ?_
          show Steps p.tables e below (s₁.setTop (mkF m 29 #[.val (.int p1), .val (.int (p1 &&& (255 : Int32)))] [])) _
          refine XS.iloadN X0.here hx rfl (hb hby own_d3_29) rfl ?_
          show Steps p.tables e below (s₁.setTop (mkF m 30 #[.val (.int p1), .val (.int (p1 &&& (255 : Int32)))] [(.int (p1 &&& (255 : Int32)))])) _
          refine XS.i2c X0.here hx rfl (hb hby own_d3_30) rfl ?_
          show Steps p.tables e below (s₁.setTop (mkF m 31 #[.val (.int p1), .val (.int (p1 &&& (255 : Int32)))] [(.int ((p1 &&& (255 : Int32)).toUInt32.toUInt16.toUInt32.toInt32))])) _
          exact retN X0 hx (t := .char) Bd.returns (by simp) (hb hby own_d3_31) hr
        · show own_Q3 Z p1 h0 n0 _ s₁.heap _
          rw [e0]
          exact ⟨(by rw [own_f3, if_neg hc1, if_neg hc2, if_neg hc3]), N0, rfl⟩
-- body 9, variant A
theorem own_d9_0 : decode jdk_52_method_15_code 0 = .ok (.iload_n 1, 1) := by decide +kernel
theorem own_d9_1 : decode jdk_52_method_15_code 1 = .ok (.aload_n 0, 1) := by decide +kernel
theorem own_d9_2 : decode jdk_52_method_15_code 2 = .ok (.arraylength, 1) := by decide +kernel
theorem own_d9_3 : decode jdk_52_method_15_code 3 = .ok (.isub, 1) := by decide +kernel
theorem own_d9_4 : decode jdk_52_method_15_code 4 = .ok (.bipush 31, 2) := by decide +kernel
theorem own_d9_6 : decode jdk_52_method_15_code 6 = .ok (.iushr, 1) := by decide +kernel
theorem own_d9_7 : decode jdk_52_method_15_code 7 = .ok (.i2b, 1) := by decide +kernel
theorem own_d9_8 : decode jdk_52_method_15_code 8 = .ok (.ireturn, 1) := by decide +kernel
theorem own_vA_ef9 (m : MethodId) (x0 : Addr) : entryFrame m #[(.ref x0), (.int (1 : Int32))] 2 = mkF m 0 #[.val (.ref x0), .val (.int (1 : Int32))] [] := by first | (simp [entryFrame, mkF, argsToLocals, Value.category]; done) | rfl
def own_vA_f9 : Int32 := (0 : Int32)
def own_vA_Q9 (Z : State) (a1 : Addr) (k_a1 : ClassId) (y0 : Int32) (h0 : Heap) (n0 : Nat) (v : Option Value) (h : Heap) (L : List Loc) : Prop := v = some (.int (own_vA_f9)) ∧ Fr n0 L ∧ h = h0
set_option maxRecDepth 65536 in
set_option maxHeartbeats 40000000 in
theorem own_vA_rm9 (l : Launch) (Z : State) (a0 : Array Value) (hw : ∀ d ∈ tables_1, d.before a0 Z = true) (ws : List Jvm.Cond) (a1 : Addr) (k_a1 : ClassId) (y0 : Int32) (h0 : Heap) (n0 : Nat) (Z0 : n0 ≤ h0.size) (V_a1 : Arv Z h0 a1 k_a1 .byte (1 : Int32) [(.int y0)] (.int (0 : Int32))) :
    MetFree l (⟨"java/lang/StringUTF16", "coderFromArrayLen", "([BI)B"⟩ : MethodName) (head1 (Jvm.Cond.code (⟨"java/lang/StringUTF16", "coderFromArrayLen", "([BI)B"⟩ : MethodName) jdk_52_method_15_code 2 (some .byte) :: ws) ({ frames := 0, cells := 0, slots := 0, locals := 0 } : Room)) (fun a U => a = #[(.ref a1), (.int (1 : Int32))] ∧ Z.Warmed39 U.vm ∧ U.heap = h0) (fun _ _ _ _ _ => True) (fun _ U o U' => ∃ v L, o = .returned v ∧ own_vA_Q9 Z a1 k_a1 y0 h0 n0 v U'.heap L ∧ FrameEnd U o U' L ({ frames := 0, cells := 0, slots := 0, locals := 0 } : Room).cells ({ frames := 0, cells := 0, slots := 0, locals := 0 } : Room).slots) := by
  refine MetFree.of_bodySF (plainFor_of_name own_pn29) hisR ?_
  intro p e s m args below meth c s₁ Bd hml0 hP hK
  obtain ⟨rfl, hZ, hh⟩ := hP
  have hx := Bd.exec
  have hby := Bd.bytes
  have hml : c.maxLocals = 2 := hml0
  have hown : s.vm.findClass "java/lang/StringUTF16" = some m.cls := findClass_of_methodNamed Bd.named
  have hnm := (name_of_methodNamed Bd.named Bd.method).1
  have X0 : Stand p l e ({ frames := 0, cells := 0, slots := 0, locals := 0 } : Room) s m #[(.ref a1), (.int (1 : Int32))] below meth c s₁ [] 0 0 := Stand.of_body Bd
  have hS0 : s.Since s.vm 0 := (State.WarmedH.refl s).since 0
  have hk0 : 0 ≤ h0.size := Nat.zero_le _
  have hlk := Bd.notSynchronized
  have e0 : s₁.heap = h0 := by rw [← hh, Bd.state]; rfl
  have N0 := Fr.nil n0
  have pre0 : ∀ t, Steps p.tables e below (s₁.setTop (mkF m 0 #[.val (.ref a1), .val (.int (1 : Int32))] [])) t → Steps p.tables e below (s₁.setTop (entryFrame m #[(.ref a1), (.int (1 : Int32))] 2)) t := fun t k => castTop (own_vA_ef9 m a1) k
  obtain ⟨cl1, Ar1, qk1, Sz1, Nn1, Hs1, Gf1⟩ := id V_a1
  obtain ⟨fs, hr, hrun, hended, hW, hsame⟩ := X0.leave (hlocks := hlk) (v := some (.int (0 : Int32))) (fun h => by rw [Bd.returns] at h; cases h)
  refine ⟨_, _, pre0 _ ?_, hrun, hended, _, _, rfl, ?_, ⟨_, rfl⟩, hW, hsame.mono (by decide) (by decide)⟩
  · show Steps p.tables e below (s₁.setTop (mkF m 0 #[.val (.ref a1), .val (.int (1 : Int32))] [])) _
    refine XS.iloadN X0.here hx rfl (hb hby own_d9_0) rfl ?_
    show Steps p.tables e below (s₁.setTop (mkF m 1 #[.val (.ref a1), .val (.int (1 : Int32))] [(.int (1 : Int32))])) _
    refine XS.aloadN X0.here hx rfl (hb hby own_d9_1) rfl rfl ?_
    show Steps p.tables e below (s₁.setTop (mkF m 2 #[.val (.ref a1), .val (.int (1 : Int32))] [(.ref a1), (.int (1 : Int32))])) _
    refine X0.arraylength hx (by rw [e0]; exact Ar1.1) (State.isArrayOf_alike hZ.alike Ar1.2.1) (g := (mkF m 2 #[.val (.ref a1), .val (.int (1 : Int32))] [(.ref a1), (.int (1 : Int32))])) rfl rfl (hb hby own_d9_2) _ ?_
    rw [len_of Sz1 Nn1]
    show Steps p.tables e below (s₁.setTop (mkF m 3 #[.val (.ref a1), .val (.int (1 : Int32))] [(.int (1 : Int32)), (.int (1 : Int32))])) _
    refine XS.isub X0.here hx rfl (hb hby own_d9_3) rfl ?_
    show Steps p.tables e below (s₁.setTop (mkF m 4 #[.val (.ref a1), .val (.int (1 : Int32))] [(.int (0 : Int32))])) _
    refine XS.bipush X0.here hx rfl (hb hby own_d9_4) ?_
    show Steps p.tables e below (s₁.setTop (mkF m 6 #[.val (.ref a1), .val (.int (1 : Int32))] [(.int (31 : Int32)), (.int (0 : Int32))])) _
    refine XS.iushr X0.here hx rfl (hb hby own_d9_6) rfl ?_
    show Steps p.tables e below (s₁.setTop (mkF m 7 #[.val (.ref a1), .val (.int (1 : Int32))] [(.int (0 : Int32))])) _
    refine XS.i2b X0.here hx rfl (hb hby own_d9_7) rfl ?_
    show Steps p.tables e below (s₁.setTop (mkF m 8 #[.val (.ref a1), .val (.int (1 : Int32))] [(.int (0 : Int32))])) _
    exact retN X0 hx (t := .byte) Bd.returns (by simp) (hb hby own_d9_8) hr
  · show own_vA_Q9 Z a1 k_a1 y0 h0 n0 _ s₁.heap _
    rw [e0]
    exact ⟨(by rw [own_vA_f9]), N0, rfl⟩
-- body 9, variant B
theorem own_vB_ef9 (m : MethodId) (x0 : Addr) : entryFrame m #[(.ref x0), (.int (2 : Int32))] 2 = mkF m 0 #[.val (.ref x0), .val (.int (2 : Int32))] [] := by first | (simp [entryFrame, mkF, argsToLocals, Value.category]; done) | rfl
def own_vB_f9 : Int32 := (0 : Int32)
def own_vB_Q9 (Z : State) (a1 : Addr) (k_a1 : ClassId) (y0 : Int32) (y1 : Int32) (h0 : Heap) (n0 : Nat) (v : Option Value) (h : Heap) (L : List Loc) : Prop := v = some (.int (own_vB_f9)) ∧ Fr n0 L ∧ h = h0
set_option maxRecDepth 65536 in
set_option maxHeartbeats 40000000 in
theorem own_vB_rm9 (l : Launch) (Z : State) (a0 : Array Value) (hw : ∀ d ∈ tables_1, d.before a0 Z = true) (ws : List Jvm.Cond) (a1 : Addr) (k_a1 : ClassId) (y0 : Int32) (y1 : Int32) (h0 : Heap) (n0 : Nat) (Z0 : n0 ≤ h0.size) (V_a1 : Arv Z h0 a1 k_a1 .byte (2 : Int32) [(.int y0), (.int y1)] (.int (0 : Int32))) :
    MetFree l (⟨"java/lang/StringUTF16", "coderFromArrayLen", "([BI)B"⟩ : MethodName) (head1 (Jvm.Cond.code (⟨"java/lang/StringUTF16", "coderFromArrayLen", "([BI)B"⟩ : MethodName) jdk_52_method_15_code 2 (some .byte) :: ws) ({ frames := 0, cells := 0, slots := 0, locals := 0 } : Room)) (fun a U => a = #[(.ref a1), (.int (2 : Int32))] ∧ Z.Warmed39 U.vm ∧ U.heap = h0) (fun _ _ _ _ _ => True) (fun _ U o U' => ∃ v L, o = .returned v ∧ own_vB_Q9 Z a1 k_a1 y0 y1 h0 n0 v U'.heap L ∧ FrameEnd U o U' L ({ frames := 0, cells := 0, slots := 0, locals := 0 } : Room).cells ({ frames := 0, cells := 0, slots := 0, locals := 0 } : Room).slots) := by
  refine MetFree.of_bodySF (plainFor_of_name own_pn29) hisR ?_
  intro p e s m args below meth c s₁ Bd hml0 hP hK
  obtain ⟨rfl, hZ, hh⟩ := hP
  have hx := Bd.exec
  have hby := Bd.bytes
  have hml : c.maxLocals = 2 := hml0
  have hown : s.vm.findClass "java/lang/StringUTF16" = some m.cls := findClass_of_methodNamed Bd.named
  have hnm := (name_of_methodNamed Bd.named Bd.method).1
  have X0 : Stand p l e ({ frames := 0, cells := 0, slots := 0, locals := 0 } : Room) s m #[(.ref a1), (.int (2 : Int32))] below meth c s₁ [] 0 0 := Stand.of_body Bd
  have hS0 : s.Since s.vm 0 := (State.WarmedH.refl s).since 0
  have hk0 : 0 ≤ h0.size := Nat.zero_le _
  have hlk := Bd.notSynchronized
  have e0 : s₁.heap = h0 := by rw [← hh, Bd.state]; rfl
  have N0 := Fr.nil n0
  have pre0 : ∀ t, Steps p.tables e below (s₁.setTop (mkF m 0 #[.val (.ref a1), .val (.int (2 : Int32))] [])) t → Steps p.tables e below (s₁.setTop (entryFrame m #[(.ref a1), (.int (2 : Int32))] 2)) t := fun t k => castTop (own_vB_ef9 m a1) k
  obtain ⟨cl1, Ar1, qk1, Sz1, Nn1, Hs1, Gf1⟩ := id V_a1
  obtain ⟨fs, hr, hrun, hended, hW, hsame⟩ := X0.leave (hlocks := hlk) (v := some (.int (0 : Int32))) (fun h => by rw [Bd.returns] at h; cases h)
  refine ⟨_, _, pre0 _ ?_, hrun, hended, _, _, rfl, ?_, ⟨_, rfl⟩, hW, hsame.mono (by decide) (by decide)⟩
  · show Steps p.tables e below (s₁.setTop (mkF m 0 #[.val (.ref a1), .val (.int (2 : Int32))] [])) _
    refine XS.iloadN X0.here hx rfl (hb hby own_d9_0) rfl ?_
    show Steps p.tables e below (s₁.setTop (mkF m 1 #[.val (.ref a1), .val (.int (2 : Int32))] [(.int (2 : Int32))])) _
    refine XS.aloadN X0.here hx rfl (hb hby own_d9_1) rfl rfl ?_
    show Steps p.tables e below (s₁.setTop (mkF m 2 #[.val (.ref a1), .val (.int (2 : Int32))] [(.ref a1), (.int (2 : Int32))])) _
    refine X0.arraylength hx (by rw [e0]; exact Ar1.1) (State.isArrayOf_alike hZ.alike Ar1.2.1) (g := (mkF m 2 #[.val (.ref a1), .val (.int (2 : Int32))] [(.ref a1), (.int (2 : Int32))])) rfl rfl (hb hby own_d9_2) _ ?_
    rw [len_of Sz1 Nn1]
    show Steps p.tables e below (s₁.setTop (mkF m 3 #[.val (.ref a1), .val (.int (2 : Int32))] [(.int (2 : Int32)), (.int (2 : Int32))])) _
    refine XS.isub X0.here hx rfl (hb hby own_d9_3) rfl ?_
    show Steps p.tables e below (s₁.setTop (mkF m 4 #[.val (.ref a1), .val (.int (2 : Int32))] [(.int (0 : Int32))])) _
    refine XS.bipush X0.here hx rfl (hb hby own_d9_4) ?_
    show Steps p.tables e below (s₁.setTop (mkF m 6 #[.val (.ref a1), .val (.int (2 : Int32))] [(.int (31 : Int32)), (.int (0 : Int32))])) _
    refine XS.iushr X0.here hx rfl (hb hby own_d9_6) rfl ?_
    show Steps p.tables e below (s₁.setTop (mkF m 7 #[.val (.ref a1), .val (.int (2 : Int32))] [(.int (0 : Int32))])) _
    refine XS.i2b X0.here hx rfl (hb hby own_d9_7) rfl ?_
    show Steps p.tables e below (s₁.setTop (mkF m 8 #[.val (.ref a1), .val (.int (2 : Int32))] [(.int (0 : Int32))])) _
    exact retN X0 hx (t := .byte) Bd.returns (by simp) (hb hby own_d9_8) hr
  · show own_vB_Q9 Z a1 k_a1 y0 y1 h0 n0 _ s₁.heap _
    rw [e0]
    exact ⟨(by rw [own_vB_f9]), N0, rfl⟩
-- body 8, variant A
theorem own_d8_0 : decode jdk_52_method_21_code 0 = .ok (.iconst 0, 1) := by decide +kernel
theorem own_d8_1 : decode jdk_52_method_21_code 1 = .ok (.istore 5, 2) := by decide +kernel
theorem own_d8_3 : decode jdk_52_method_21_code 3 = .ok (.iload 5, 2) := by decide +kernel
theorem own_d8_5 : decode jdk_52_method_21_code 5 = .ok (.iload 4, 2) := by decide +kernel
theorem own_d8_7 : decode jdk_52_method_21_code 7 = .ok (.if_icmp .ge 37, 3) := by decide +kernel
theorem own_d8_10 : decode jdk_52_method_21_code 10 = .ok (.aload_n 0, 1) := by decide +kernel
theorem own_d8_11 : decode jdk_52_method_21_code 11 = .ok (.iload_n 1, 1) := by decide +kernel
theorem own_d8_12 : decode jdk_52_method_21_code 12 = .ok (.caload, 1) := by decide +kernel
theorem own_d8_13 : decode jdk_52_method_21_code 13 = .ok (.istore 6, 2) := by decide +kernel
theorem own_d8_15 : decode jdk_52_method_21_code 15 = .ok (.iload 6, 2) := by decide +kernel
theorem own_d8_17 : decode jdk_52_method_21_code 17 = .ok (.sipush 255, 3) := by decide +kernel
theorem own_d8_20 : decode jdk_52_method_21_code 20 = .ok (.if_icmp .le 6, 3) := by decide +kernel
theorem own_d8_26 : decode jdk_52_method_21_code 26 = .ok (.aload_n 2, 1) := by decide +kernel
theorem own_d8_27 : decode jdk_52_method_21_code 27 = .ok (.iload_n 3, 1) := by decide +kernel
theorem own_d8_28 : decode jdk_52_method_21_code 28 = .ok (.iload 6, 2) := by decide +kernel
theorem own_d8_30 : decode jdk_52_method_21_code 30 = .ok (.i2b, 1) := by decide +kernel
theorem own_d8_31 : decode jdk_52_method_21_code 31 = .ok (.bastore, 1) := by decide +kernel
theorem own_d8_32 : decode jdk_52_method_21_code 32 = .ok (.iinc 1 1, 3) := by decide +kernel
theorem own_d8_35 : decode jdk_52_method_21_code 35 = .ok (.iinc 3 1, 3) := by decide +kernel
theorem own_d8_38 : decode jdk_52_method_21_code 38 = .ok (.iinc 5 1, 3) := by decide +kernel
theorem own_d8_41 : decode jdk_52_method_21_code 41 = .ok (.goto (-38), 3) := by decide +kernel
theorem own_d8_44 : decode jdk_52_method_21_code 44 = .ok (.iload 4, 2) := by decide +kernel
theorem own_d8_46 : decode jdk_52_method_21_code 46 = .ok (.ireturn, 1) := by decide +kernel
theorem own_vA_ef8 (m : MethodId) (x0 : Addr) (x2 : Addr) : entryFrame m #[(.ref x0), (.int (0 : Int32)), (.ref x2), (.int (0 : Int32)), (.int (1 : Int32))] 7 = mkF m 0 #[.val (.ref x0), .val (.int (0 : Int32)), .val (.ref x2), .val (.int (0 : Int32)), .val (.int (1 : Int32)), .unset, .unset] [] := by first | (simp [entryFrame, mkF, argsToLocals, Value.category]; done) | rfl
def own_vA_f8 : Int32 := (1 : Int32)
def own_vA_Q8 (Z : State) (a1 : Addr) (a3 : Addr) (k_a1 : ClassId) (y0 : Int32) (k_a3 : ClassId) (h0 : Heap) (n0 : Nat) (v : Option Value) (h : Heap) (L : List Loc) : Prop := v = some (.int (own_vA_f8)) ∧ Fr n0 L ∧ Keep h0 h [a3] ∧ Arv Z h a3 k_a3 .byte (1 : Int32) [(.int (nar .byte (y0.toInt8.toInt32)))] (.int (0 : Int32))
set_option maxRecDepth 65536 in
set_option maxHeartbeats 40000000 in
theorem own_vA_rm8 (l : Launch) (Z : State) (a0 : Array Value) (hw : ∀ d ∈ tables_1, d.before a0 Z = true) (ws : List Jvm.Cond) (a1 : Addr) (a3 : Addr) (k_a1 : ClassId) (y0 : Int32) (k_a3 : ClassId) (h0 : Heap) (n0 : Nat) (Z0 : n0 ≤ h0.size) (V_a1 : Arv Z h0 a1 k_a1 .char (1 : Int32) [(.int y0)] (.int (0 : Int32))) (V_a3 : Arv Z h0 a3 k_a3 .byte (1 : Int32) [(.int (0 : Int32))] (.int (0 : Int32))) (hp0 : ¬ (255 : Int32) < y0) (g_a3 : n0 ≤ a3) (ne_a1_a3 : a1 ≠ a3) :
    MetFree l (⟨"java/lang/StringUTF16", "compress", "([CI[BII)I"⟩ : MethodName) (head1 (Jvm.Cond.code (⟨"java/lang/StringUTF16", "compress", "([CI[BII)I"⟩ : MethodName) jdk_52_method_21_code 7 (some .int) :: ws) ({ frames := 0, cells := 0, slots := 0, locals := 0 } : Room)) (fun a U => a = #[(.ref a1), (.int (0 : Int32)), (.ref a3), (.int (0 : Int32)), (.int (1 : Int32))] ∧ Z.Warmed39 U.vm ∧ U.heap = h0) (fun _ _ _ _ _ => True) (fun _ U o U' => ∃ v L, o = .returned v ∧ own_vA_Q8 Z a1 a3 k_a1 y0 k_a3 h0 n0 v U'.heap L ∧ FrameEnd U o U' L ({ frames := 0, cells := 0, slots := 0, locals := 0 } : Room).cells ({ frames := 0, cells := 0, slots := 0, locals := 0 } : Room).slots) := by
  refine MetFree.of_bodySF (plainFor_of_name own_pn29) hisR ?_
  intro p e s m args below meth c s₁ Bd hml0 hP hK
  obtain ⟨rfl, hZ, hh⟩ := hP
  have hx := Bd.exec
  have hby := Bd.bytes
  have hml : c.maxLocals = 7 := hml0
  have hown : s.vm.findClass "java/lang/StringUTF16" = some m.cls := findClass_of_methodNamed Bd.named
  have hnm := (name_of_methodNamed Bd.named Bd.method).1
  have X0 : Stand p l e ({ frames := 0, cells := 0, slots := 0, locals := 0 } : Room) s m #[(.ref a1), (.int (0 : Int32)), (.ref a3), (.int (0 : Int32)), (.int (1 : Int32))] below meth c s₁ [] 0 0 := Stand.of_body Bd
  have hS0 : s.Since s.vm 0 := (State.WarmedH.refl s).since 0
  have hk0 : 0 ≤ h0.size := Nat.zero_le _
  have hlk := Bd.notSynchronized
  have e0 : s₁.heap = h0 := by rw [← hh, Bd.state]; rfl
  have N0 := Fr.nil n0
  have pre0 : ∀ t, Steps p.tables e below (s₁.setTop (mkF m 0 #[.val (.ref a1), .val (.int (0 : Int32)), .val (.ref a3), .val (.int (0 : Int32)), .val (.int (1 : Int32)), .unset, .unset] [])) t → Steps p.tables e below (s₁.setTop (entryFrame m #[(.ref a1), (.int (0 : Int32)), (.ref a3), (.int (0 : Int32)), (.int (1 : Int32))] 7)) t := fun t k => castTop (own_vA_ef8 m a1 a3) k
  obtain ⟨cl1, Ar1, qk1, Sz1, Nn1, Hs1, Gf1⟩ := id V_a1
  have hin1 : ¬ ((0 : Int32) < 0 ∨ cl1.slots.size ≤ ((0 : Int32)).toNatClampNeg) := inb_of Sz1 ⟨by decide, by decide⟩
  have hat1 : cl1.slots[((0 : Int32)).toNatClampNeg]? = some (.int y0) := Has.at Hs1 hin1 rfl
  obtain ⟨cl2, Ar2, qk2, Sz2, Nn2, Hs2, Gf2⟩ := id V_a3
  have hin2 : ¬ ((0 : Int32) < 0 ∨ cl2.slots.size ≤ ((0 : Int32)).toNatClampNeg) := inb_of Sz2 ⟨by decide, by decide⟩
  obtain ⟨T3, h3, X3, e3, W3, st3⟩ := stB X0 hx hZ e0 Ar2 (j := (0 : Int32)) hin2 (g := (mkF m 31 #[.val (.ref a1), .val (.int (0 : Int32)), .val (.ref a3), .val (.int (0 : Int32)), .val (.int (1 : Int32)), .val (.int (0 : Int32)), .val (.int y0)] [(.int (y0.toInt8.toInt32)), (.int (0 : Int32)), (.ref a3)])) rfl rfl (hb hby own_d8_31)
  have V_a3_3 : Arv Z h3 a3 k_a3 .byte (1 : Int32) [(.int (nar .byte (y0.toInt8.toInt32)))] (.int (0 : Int32)) := Arv.set Ar2 qk2 Sz2 Nn2 Hs2 Gf2 (fits_nar_byte _) W3 0 rfl (Nat.le_of_ble_eq_true rfl)
  have N4 := Fr.snoc X3 N0 g_a3
  have Z5 := Nat.le_trans Z0 (Keep.of_wr W3).1
  have K6 : Keep h0 h3 [a3] := (Keep.refl h0 _).wr W3 (Or.inl (List.mem_of_getElem? (i := 0) rfl))
  have f7 := V_a1.other W3 ne_a1_a3
  obtain ⟨fs, hr, hrun, hended, hW, hsame⟩ := X3.leave (hlocks := hlk) (v := some (.int (1 : Int32))) (fun h => by rw [Bd.returns] at h; cases h)
  refine ⟨_, _, pre0 _ ?_, hrun, hended, _, _, rfl, ?_, ⟨_, rfl⟩, hW, hsame.mono (by decide) (by decide)⟩
  · show Steps p.tables e below (s₁.setTop (mkF m 0 #[.val (.ref a1), .val (.int (0 : Int32)), .val (.ref a3), .val (.int (0 : Int32)), .val (.int (1 : Int32)), .unset, .unset] [])) _
    refine XS.iconst X0.here hx rfl (hb hby own_d8_0) ?_
    show Steps p.tables e below (s₁.setTop (mkF m 1 #[.val (.ref a1), .val (.int (0 : Int32)), .val (.ref a3), .val (.int (0 : Int32)), .val (.int (1 : Int32)), .unset, .unset] [(.int (0 : Int32))])) _
    refine XS.istore X0.here hx rfl (hb hby own_d8_1) rfl (l' := #[.val (.ref a1), .val (.int (0 : Int32)), .val (.ref a3), .val (.int (0 : Int32)), .val (.int (1 : Int32)), .val (.int (0 : Int32)), .unset]) rfl ?_
    show Steps p.tables e below (s₁.setTop (mkF m 3 #[.val (.ref a1), .val (.int (0 : Int32)), .val (.ref a3), .val (.int (0 : Int32)), .val (.int (1 : Int32)), .val (.int (0 : Int32)), .unset] [])) _
    refine XS.iload X0.here hx rfl (hb hby own_d8_3) rfl ?_
    show Steps p.tables e below (s₁.setTop (mkF m 5 #[.val (.ref a1), .val (.int (0 : Int32)), .val (.ref a3), .val (.int (0 : Int32)), .val (.int (1 : Int32)), .val (.int (0 : Int32)), .unset] [(.int (0 : Int32))])) _
    refine XS.iload X0.here hx rfl (hb hby own_d8_5) rfl ?_
    show Steps p.tables e below (s₁.setTop (mkF m 7 #[.val (.ref a1), .val (.int (0 : Int32)), .val (.ref a3), .val (.int (0 : Int32)), .val (.int (1 : Int32)), .val (.int (0 : Int32)), .unset] [(.int (1 : Int32)), (.int (0 : Int32))])) _
    refine XS.icmpNo X0.here hx rfl (hb hby own_d8_7) rfl (tlt (by decide : (0 : Int32) < (1 : Int32))).2.1 ?_
    show Steps p.tables e below (s₁.setTop (mkF m 10 #[.val (.ref a1), .val (.int (0 : Int32)), .val (.ref a3), .val (.int (0 : Int32)), .val (.int (1 : Int32)), .val (.int (0 : Int32)), .unset] [])) _
    refine XS.aloadN X0.here hx rfl (hb hby own_d8_10) rfl rfl ?_
    show Steps p.tables e below (s₁.setTop (mkF m 11 #[.val (.ref a1), .val (.int (0 : Int32)), .val (.ref a3), .val (.int (0 : Int32)), .val (.int (1 : Int32)), .val (.int (0 : Int32)), .unset] [(.ref a1)])) _
    refine XS.iloadN X0.here hx rfl (hb hby own_d8_11) rfl ?_
    show Steps p.tables e below (s₁.setTop (mkF m 12 #[.val (.ref a1), .val (.int (0 : Int32)), .val (.ref a3), .val (.int (0 : Int32)), .val (.int (1 : Int32)), .val (.int (0 : Int32)), .unset] [(.int (0 : Int32)), (.ref a1)])) _
    refine X0.caload hx (j := (0 : Int32)) (v := (.int y0)) (by rw [e0]; exact Ar1.1) (State.isArrayOf_alike hZ.alike Ar1.2.1) Ar1.2.2 hin1 hat1 (g := (mkF m 12 #[.val (.ref a1), .val (.int (0 : Int32)), .val (.ref a3), .val (.int (0 : Int32)), .val (.int (1 : Int32)), .val (.int (0 : Int32)), .unset] [(.int (0 : Int32)), (.ref a1)])) rfl rfl (hb hby own_d8_12) _ ?_
    show Steps p.tables e below (s₁.setTop (mkF m 13 #[.val (.ref a1), .val (.int (0 : Int32)), .val (.ref a3), .val (.int (0 : Int32)), .val (.int (1 : Int32)), .val (.int (0 : Int32)), .unset] [(.int y0)])) _
    refine XS.istore X0.here hx rfl (hb hby own_d8_13) rfl (l' := #[.val (.ref a1), .val (.int (0 : Int32)), .val (.ref a3), .val (.int (0 : Int32)), .val (.int (1 : Int32)), .val (.int (0 : Int32)), .val (.int y0)]) rfl ?_
    show Steps p.tables e below (s₁.setTop (mkF m 15 #[.val (.ref a1), .val (.int (0 : Int32)), .val (.ref a3), .val (.int (0 : Int32)), .val (.int (1 : Int32)), .val (.int (0 : Int32)), .val (.int y0)] [])) _
    refine XS.iload X0.here hx rfl (hb hby own_d8_15) rfl ?_
    show Steps p.tables e below (s₁.setTop (mkF m 17 #[.val (.ref a1), .val (.int (0 : Int32)), .val (.ref a3), .val (.int (0 : Int32)), .val (.int (1 : Int32)), .val (.int (0 : Int32)), .val (.int y0)] [(.int y0)])) _
    refine XS.sipush X0.here hx rfl (hb hby own_d8_17) ?_
    show Steps p.tables e below (s₁.setTop (mkF m 20 #[.val (.ref a1), .val (.int (0 : Int32)), .val (.ref a3), .val (.int (0 : Int32)), .val (.int (1 : Int32)), .val (.int (0 : Int32)), .val (.int y0)] [(.int (255 : Int32)), (.int y0)])) _
    refine XS.icmpYes X0.here hx rfl (pc0 := 20) (pc' := 26) rfl (hb hby own_d8_20) rfl (flt hp0).2.2.2 (by decide) (by decide) ?_
    show Steps p.tables e below (s₁.setTop (mkF m 26 #[.val (.ref a1), .val (.int (0 : Int32)), .val (.ref a3), .val (.int (0 : Int32)), .val (.int (1 : Int32)), .val (.int (0 : Int32)), .val (.int y0)] [])) _
    refine XS.aloadN X0.here hx rfl (hb hby own_d8_26) rfl rfl ?_
    show Steps p.tables e below (s₁.setTop (mkF m 27 #[.val (.ref a1), .val (.int (0 : Int32)), .val (.ref a3), .val (.int (0 : Int32)), .val (.int (1 : Int32)), .val (.int (0 : Int32)), .val (.int y0)] [(.ref a3)])) _
    refine XS.iloadN X0.here hx rfl (hb hby own_d8_27) rfl ?_
    show Steps p.tables e below (s₁.setTop (mkF m 28 #[.val (.ref a1), .val (.int (0 : Int32)), .val (.ref a3), .val (.int (0 : Int32)), .val (.int (1 : Int32)), .val (.int (0 : Int32)), .val (.int y0)] [(.int (0 : Int32)), (.ref a3)])) _
    refine XS.iload X0.here hx rfl (hb hby own_d8_28) rfl ?_
    show Steps p.tables e below (s₁.setTop (mkF m 30 #[.val (.ref a1), .val (.int (0 : Int32)), .val (.ref a3), .val (.int (0 : Int32)), .val (.int (1 : Int32)), .val (.int (0 : Int32)), .val (.int y0)] [(.int y0), (.int (0 : Int32)), (.ref a3)])) _
    refine XS.i2b X0.here hx rfl (hb hby own_d8_30) rfl ?_
    show Steps p.tables e below (s₁.setTop (mkF m 31 #[.val (.ref a1), .val (.int (0 : Int32)), .val (.ref a3), .val (.int (0 : Int32)), .val (.int (1 : Int32)), .val (.int (0 : Int32)), .val (.int y0)] [(.int (y0.toInt8.toInt32)), (.int (0 : Int32)), (.ref a3)])) _
    refine st3 _ ?_
    show Steps p.tables e below (T3.setTop (mkF m 32 #[.val (.ref a1), .val (.int (0 : Int32)), .val (.ref a3), .val (.int (0 : Int32)), .val (.int (1 : Int32)), .val (.int (0 : Int32)), .val (.int y0)] [])) _
    refine XS.iinc X3.here hx rfl (hb hby own_d8_32) rfl (l' := #[.val (.ref a1), .val (.int (1 : Int32)), .val (.ref a3), .val (.int (0 : Int32)), .val (.int (1 : Int32)), .val (.int (0 : Int32)), .val (.int y0)]) rfl ?_
    show Steps p.tables e below (T3.setTop (mkF m 35 #[.val (.ref a1), .val (.int (1 : Int32)), .val (.ref a3), .val (.int (0 : Int32)), .val (.int (1 : Int32)), .val (.int (0 : Int32)), .val (.int y0)] [])) _
    refine XS.iinc X3.here hx rfl (hb hby own_d8_35) rfl (l' := #[.val (.ref a1), .val (.int (1 : Int32)), .val (.ref a3), .val (.int (1 : Int32)), .val (.int (1 : Int32)), .val (.int (0 : Int32)), .val (.int y0)]) rfl ?_
    show Steps p.tables e below (T3.setTop (mkF m 38 #[.val (.ref a1), .val (.int (1 : Int32)), .val (.ref a3), .val (.int (1 : Int32)), .val (.int (1 : Int32)), .val (.int (0 : Int32)), .val (.int y0)] [])) _
    refine XS.iinc X3.here hx rfl (hb hby own_d8_38) rfl (l' := #[.val (.ref a1), .val (.int (1 : Int32)), .val (.ref a3), .val (.int (1 : Int32)), .val (.int (1 : Int32)), .val (.int (1 : Int32)), .val (.int y0)]) rfl ?_
    show Steps p.tables e below (T3.setTop (mkF m 41 #[.val (.ref a1), .val (.int (1 : Int32)), .val (.ref a3), .val (.int (1 : Int32)), .val (.int (1 : Int32)), .val (.int (1 : Int32)), .val (.int y0)] [])) _
    refine XS.goto X3.here hx rfl (pc0 := 41) (pc' := 3) rfl (hb hby own_d8_41) (by decide) (by decide) ?_
    show Steps p.tables e below (T3.setTop (mkF m 3 #[.val (.ref a1), .val (.int (1 : Int32)), .val (.ref a3), .val (.int (1 : Int32)), .val (.int (1 : Int32)), .val (.int (1 : Int32)), .val (.int y0)] [])) _
    refine XS.iload X3.here hx rfl (hb hby own_d8_3) rfl ?_
    show Steps p.tables e below (T3.setTop (mkF m 5 #[.val (.ref a1), .val (.int (1 : Int32)), .val (.ref a3), .val (.int (1 : Int32)), .val (.int (1 : Int32)), .val (.int (1 : Int32)), .val (.int y0)] [(.int (1 : Int32))])) _
    refine XS.iload X3.here hx rfl (hb hby own_d8_5) rfl ?_
    show Steps p.tables e below (T3.setTop (mkF m 7 #[.val (.ref a1), .val (.int (1 : Int32)), .val (.ref a3), .val (.int (1 : Int32)), .val (.int (1 : Int32)), .val (.int (1 : Int32)), .val (.int y0)] [(.int (1 : Int32)), (.int (1 : Int32))])) _
    refine XS.icmpYes X3.here hx rfl (pc0 := 7) (pc' := 44) rfl (hb hby own_d8_7) rfl (flt (by decide : ¬ ((1 : Int32) < (1 : Int32)))).2.1 (by decide) (by decide) ?_
    show Steps p.tables e below (T3.setTop (mkF m 44 #[.val (.ref a1), .val (.int (1 : Int32)), .val (.ref a3), .val (.int (1 : Int32)), .val (.int (1 : Int32)), .val (.int (1 : Int32)), .val (.int y0)] [])) _
    refine XS.iload X3.here hx rfl (hb hby own_d8_44) rfl ?_
    show Steps p.tables e below (T3.setTop (mkF m 46 #[.val (.ref a1), .val (.int (1 : Int32)), .val (.ref a3), .val (.int (1 : Int32)), .val (.int (1 : Int32)), .val (.int (1 : Int32)), .val (.int y0)] [(.int (1 : Int32))])) _
    exact retI X3 hx Bd.returns (hb hby own_d8_46) hr
  · show own_vA_Q8 Z a1 a3 k_a1 y0 k_a3 h0 n0 _ T3.heap _
    rw [e3]
    exact ⟨(by rw [own_vA_f8]), N4, K6, V_a3_3⟩
-- body 8, variant B
theorem own_vB_ef8 (m : MethodId) (x0 : Addr) (x2 : Addr) : entryFrame m #[(.ref x0), (.int (0 : Int32)), (.ref x2), (.int (0 : Int32)), (.int (2 : Int32))] 7 = mkF m 0 #[.val (.ref x0), .val (.int (0 : Int32)), .val (.ref x2), .val (.int (0 : Int32)), .val (.int (2 : Int32)), .unset, .unset] [] := by first | (simp [entryFrame, mkF, argsToLocals, Value.category]; done) | rfl
def own_vB_f8 : Int32 := (2 : Int32)
def own_vB_Q8 (Z : State) (a1 : Addr) (a3 : Addr) (k_a1 : ClassId) (y0 : Int32) (y1 : Int32) (k_a3 : ClassId) (h0 : Heap) (n0 : Nat) (v : Option Value) (h : Heap) (L : List Loc) : Prop := v = some (.int (own_vB_f8)) ∧ Fr n0 L ∧ Keep h0 h [a3] ∧ Arv Z h a3 k_a3 .byte (2 : Int32) [(.int (nar .byte (y0.toInt8.toInt32))), (.int (nar .byte (y1.toInt8.toInt32)))] (.int (0 : Int32))
set_option maxRecDepth 65536 in
set_option maxHeartbeats 40000000 in
theorem own_vB_rm8 (l : Launch) (Z : State) (a0 : Array Value) (hw : ∀ d ∈ tables_1, d.before a0 Z = true) (ws : List Jvm.Cond) (a1 : Addr) (a3 : Addr) (k_a1 : ClassId) (y0 : Int32) (y1 : Int32) (k_a3 : ClassId) (h0 : Heap) (n0 : Nat) (Z0 : n0 ≤ h0.size) (V_a1 : Arv Z h0 a1 k_a1 .char (2 : Int32) [(.int y0), (.int y1)] (.int (0 : Int32))) (V_a3 : Arv Z h0 a3 k_a3 .byte (2 : Int32) [(.int (0 : Int32)), (.int (0 : Int32))] (.int (0 : Int32))) (hp0 : ¬ (255 : Int32) < y0) (hp1 : ¬ (255 : Int32) < y1) (g_a3 : n0 ≤ a3) (ne_a1_a3 : a1 ≠ a3) :
    MetFree l (⟨"java/lang/StringUTF16", "compress", "([CI[BII)I"⟩ : MethodName) (head1 (Jvm.Cond.code (⟨"java/lang/StringUTF16", "compress", "([CI[BII)I"⟩ : MethodName) jdk_52_method_21_code 7 (some .int) :: ws) ({ frames := 0, cells := 0, slots := 0, locals := 0 } : Room)) (fun a U => a = #[(.ref a1), (.int (0 : Int32)), (.ref a3), (.int (0 : Int32)), (.int (2 : Int32))] ∧ Z.Warmed39 U.vm ∧ U.heap = h0) (fun _ _ _ _ _ => True) (fun _ U o U' => ∃ v L, o = .returned v ∧ own_vB_Q8 Z a1 a3 k_a1 y0 y1 k_a3 h0 n0 v U'.heap L ∧ FrameEnd U o U' L ({ frames := 0, cells := 0, slots := 0, locals := 0 } : Room).cells ({ frames := 0, cells := 0, slots := 0, locals := 0 } : Room).slots) := by
  refine MetFree.of_bodySF (plainFor_of_name own_pn29) hisR ?_
  intro p e s m args below meth c s₁ Bd hml0 hP hK
  obtain ⟨rfl, hZ, hh⟩ := hP
  have hx := Bd.exec
  have hby := Bd.bytes
  have hml : c.maxLocals = 7 := hml0
  have hown : s.vm.findClass "java/lang/StringUTF16" = some m.cls := findClass_of_methodNamed Bd.named
  have hnm := (name_of_methodNamed Bd.named Bd.method).1
  have X0 : Stand p l e ({ frames := 0, cells := 0, slots := 0, locals := 0 } : Room) s m #[(.ref a1), (.int (0 : Int32)), (.ref a3), (.int (0 : Int32)), (.int (2 : Int32))] below meth c s₁ [] 0 0 := Stand.of_body Bd
  have hS0 : s.Since s.vm 0 := (State.WarmedH.refl s).since 0
  have hk0 : 0 ≤ h0.size := Nat.zero_le _
  have hlk := Bd.notSynchronized
  have e0 : s₁.heap = h0 := by rw [← hh, Bd.state]; rfl
  have N0 := Fr.nil n0
  have pre0 : ∀ t, Steps p.tables e below (s₁.setTop (mkF m 0 #[.val (.ref a1), .val (.int (0 : Int32)), .val (.ref a3), .val (.int (0 : Int32)), .val (.int (2 : Int32)), .unset, .unset] [])) t → Steps p.tables e below (s₁.setTop (entryFrame m #[(.ref a1), (.int (0 : Int32)), (.ref a3), (.int (0 : Int32)), (.int (2 : Int32))] 7)) t := fun t k => castTop (own_vB_ef8 m a1 a3) k
  obtain ⟨cl1, Ar1, qk1, Sz1, Nn1, Hs1, Gf1⟩ := id V_a1
  have hin1 : ¬ ((0 : Int32) < 0 ∨ cl1.slots.size ≤ ((0 : Int32)).toNatClampNeg) := inb_of Sz1 ⟨by decide, by decide⟩
  have hat1 : cl1.slots[((0 : Int32)).toNatClampNeg]? = some (.int y0) := Has.at Hs1 hin1 rfl
  obtain ⟨cl2, Ar2, qk2, Sz2, Nn2, Hs2, Gf2⟩ := id V_a3
  have hin2 : ¬ ((0 : Int32) < 0 ∨ cl2.slots.size ≤ ((0 : Int32)).toNatClampNeg) := inb_of Sz2 ⟨by decide, by decide⟩
  obtain ⟨T3, h3, X3, e3, W3, st3⟩ := stB X0 hx hZ e0 Ar2 (j := (0 : Int32)) hin2 (g := (mkF m 31 #[.val (.ref a1), .val (.int (0 : Int32)), .val (.ref a3), .val (.int (0 : Int32)), .val (.int (2 : Int32)), .val (.int (0 : Int32)), .val (.int y0)] [(.int (y0.toInt8.toInt32)), (.int (0 : Int32)), (.ref a3)])) rfl rfl (hb hby own_d8_31)
  have V_a3_3 : Arv Z h3 a3 k_a3 .byte (2 : Int32) [(.int (nar .byte (y0.toInt8.toInt32))), (.int (0 : Int32))] (.int (0 : Int32)) := Arv.set Ar2 qk2 Sz2 Nn2 Hs2 Gf2 (fits_nar_byte _) W3 0 rfl (Nat.le_of_ble_eq_true rfl)
  have N4 := Fr.snoc X3 N0 g_a3
  have Z5 := Nat.le_trans Z0 (Keep.of_wr W3).1
  have K6 : Keep h0 h3 [a3] := (Keep.refl h0 _).wr W3 (Or.inl (List.mem_of_getElem? (i := 0) rfl))
  have f7 := V_a1.other W3 ne_a1_a3
  obtain ⟨cl8, Ar8, qk8, Sz8, Nn8, Hs8, Gf8⟩ := id f7
  have hin8 : ¬ ((1 : Int32) < 0 ∨ cl8.slots.size ≤ ((1 : Int32)).toNatClampNeg) := inb_of Sz8 ⟨by decide, by decide⟩
  have hat8 : cl8.slots[((1 : Int32)).toNatClampNeg]? = some (.int y1) := Has.at Hs8 hin8 rfl
  obtain ⟨cl9, Ar9, qk9, Sz9, Nn9, Hs9, Gf9⟩ := id V_a3_3
  have hin9 : ¬ ((1 : Int32) < 0 ∨ cl9.slots.size ≤ ((1 : Int32)).toNatClampNeg) := inb_of Sz9 ⟨by decide, by decide⟩
  obtain ⟨T10, h10, X10, e10, W10, st10⟩ := stB X3 hx hZ e3 Ar9 (j := (1 : Int32)) hin9 (g := (mkF m 31 #[.val (.ref a1), .val (.int (1 : Int32)), .val (.ref a3), .val (.int (1 : Int32)), .val (.int (2 : Int32)), .val (.int (1 : Int32)), .val (.int y1)] [(.int (y1.toInt8.toInt32)), (.int (1 : Int32)), (.ref a3)])) rfl rfl (hb hby own_d8_31)
  have V_a3_10 : Arv Z h10 a3 k_a3 .byte (2 : Int32) [(.int (nar .byte (y0.toInt8.toInt32))), (.int (nar .byte (y1.toInt8.toInt32)))] (.int (0 : Int32)) := Arv.set Ar9 qk9 Sz9 Nn9 Hs9 Gf9 (fits_nar_byte _) W10 1 rfl (Nat.le_of_ble_eq_true rfl)
  have N11 := Fr.snoc X10 N4 g_a3
  have Z12 := Nat.le_trans Z5 (Keep.of_wr W10).1
  have K13 : Keep h0 h10 [a3] := K6.wr W10 (Or.inl (List.mem_of_getElem? (i := 0) rfl))
  have f14 := f7.other W10 ne_a1_a3
  obtain ⟨fs, hr, hrun, hended, hW, hsame⟩ := X10.leave (hlocks := hlk) (v := some (.int (2 : Int32))) (fun h => by rw [Bd.returns] at h; cases h)
  refine ⟨_, _, pre0 _ ?_, hrun, hended, _, _, rfl, ?_, ⟨_, rfl⟩, hW, hsame.mono (by decide) (by decide)⟩
  · show Steps p.tables e below (s₁.setTop (mkF m 0 #[.val (.ref a1), .val (.int (0 : Int32)), .val (.ref a3), .val (.int (0 : Int32)), .val (.int (2 : Int32)), .unset, .unset] [])) _
    refine XS.iconst X0.here hx rfl (hb hby own_d8_0) ?_
    show Steps p.tables e below (s₁.setTop (mkF m 1 #[.val (.ref a1), .val (.int (0 : Int32)), .val (.ref a3), .val (.int (0 : Int32)), .val (.int (2 : Int32)), .unset, .unset] [(.int (0 : Int32))])) _
    refine XS.istore X0.here hx rfl (hb hby own_d8_1) rfl (l' := #[.val (.ref a1), .val (.int (0 : Int32)), .val (.ref a3), .val (.int (0 : Int32)), .val (.int (2 : Int32)), .val (.int (0 : Int32)), .unset]) rfl ?_
    show Steps p.tables e below (s₁.setTop (mkF m 3 #[.val (.ref a1), .val (.int (0 : Int32)), .val (.ref a3), .val (.int (0 : Int32)), .val (.int (2 : Int32)), .val (.int (0 : Int32)), .unset] [])) _
    refine XS.iload X0.here hx rfl (hb hby own_d8_3) rfl ?_
    show Steps p.tables e below (s₁.setTop (mkF m 5 #[.val (.ref a1), .val (.int (0 : Int32)), .val (.ref a3), .val (.int (0 : Int32)), .val (.int (2 : Int32)), .val (.int (0 : Int32)), .unset] [(.int (0 : Int32))])) _
    refine XS.iload X0.here hx rfl (hb hby own_d8_5) rfl ?_
    show Steps p.tables e below (s₁.setTop (mkF m 7 #[.val (.ref a1), .val (.int (0 : Int32)), .val (.ref a3), .val (.int (0 : Int32)), .val (.int (2 : Int32)), .val (.int (0 : Int32)), .unset] [(.int (2 : Int32)), (.int (0 : Int32))])) _
    refine XS.icmpNo X0.here hx rfl (hb hby own_d8_7) rfl (tlt (by decide : (0 : Int32) < (2 : Int32))).2.1 ?_
    show Steps p.tables e below (s₁.setTop (mkF m 10 #[.val (.ref a1), .val (.int (0 : Int32)), .val (.ref a3), .val (.int (0 : Int32)), .val (.int (2 : Int32)), .val (.int (0 : Int32)), .unset] [])) _
    refine XS.aloadN X0.here hx rfl (hb hby own_d8_10) rfl rfl ?_
    show Steps p.tables e below (s₁.setTop (mkF m 11 #[.val (.ref a1), .val (.int (0 : Int32)), .val (.ref a3), .val (.int (0 : Int32)), .val (.int (2 : Int32)), .val (.int (0 : Int32)), .unset] [(.ref a1)])) _
    refine XS.iloadN X0.here hx rfl (hb hby own_d8_11) rfl ?_
    show Steps p.tables e below (s₁.setTop (mkF m 12 #[.val (.ref a1), .val (.int (0 : Int32)), .val (.ref a3), .val (.int (0 : Int32)), .val (.int (2 : Int32)), .val (.int (0 : Int32)), .unset] [(.int (0 : Int32)), (.ref a1)])) _
    refine X0.caload hx (j := (0 : Int32)) (v := (.int y0)) (by rw [e0]; exact Ar1.1) (State.isArrayOf_alike hZ.alike Ar1.2.1) Ar1.2.2 hin1 hat1 (g := (mkF m 12 #[.val (.ref a1), .val (.int (0 : Int32)), .val (.ref a3), .val (.int (0 : Int32)), .val (.int (2 : Int32)), .val (.int (0 : Int32)), .unset] [(.int (0 : Int32)), (.ref a1)])) rfl rfl (hb hby own_d8_12) _ ?_
    show Steps p.tables e below (s₁.setTop (mkF m 13 #[.val (.ref a1), .val (.int (0 : Int32)), .val (.ref a3), .val (.int (0 : Int32)), .val (.int (2 : Int32)), .val (.int (0 : Int32)), .unset] [(.int y0)])) _
    refine XS.istore X0.here hx rfl (hb hby own_d8_13) rfl (l' := #[.val (.ref a1), .val (.int (0 : Int32)), .val (.ref a3), .val (.int (0 : Int32)), .val (.int (2 : Int32)), .val (.int (0 : Int32)), .val (.int y0)]) rfl ?_
    show Steps p.tables e below (s₁.setTop (mkF m 15 #[.val (.ref a1), .val (.int (0 : Int32)), .val (.ref a3), .val (.int (0 : Int32)), .val (.int (2 : Int32)), .val (.int (0 : Int32)), .val (.int y0)] [])) _
    refine XS.iload X0.here hx rfl (hb hby own_d8_15) rfl ?_
    show Steps p.tables e below (s₁.setTop (mkF m 17 #[.val (.ref a1), .val (.int (0 : Int32)), .val (.ref a3), .val (.int (0 : Int32)), .val (.int (2 : Int32)), .val (.int (0 : Int32)), .val (.int y0)] [(.int y0)])) _
    refine XS.sipush X0.here hx rfl (hb hby own_d8_17) ?_
    show Steps p.tables e below (s₁.setTop (mkF m 20 #[.val (.ref a1), .val (.int (0 : Int32)), .val (.ref a3), .val (.int (0 : Int32)), .val (.int (2 : Int32)), .val (.int (0 : Int32)), .val (.int y0)] [(.int (255 : Int32)), (.int y0)])) _
    refine XS.icmpYes X0.here hx rfl (pc0 := 20) (pc' := 26) rfl (hb hby own_d8_20) rfl (flt hp0).2.2.2 (by decide) (by decide) ?_
    show Steps p.tables e below (s₁.setTop (mkF m 26 #[.val (.ref a1), .val (.int (0 : Int32)), .val (.ref a3), .val (.int (0 : Int32)), .val (.int (2 : Int32)), .val (.int (0 : Int32)), .val (.int y0)] [])) _
    refine XS.aloadN X0.here hx rfl (hb hby own_d8_26) rfl rfl ?_
    show Steps p.tables e below (s₁.setTop (mkF m 27 #[.val (.ref a1), .val (.int (0 : Int32)), .val (.ref a3), .val (.int (0 : Int32)), .val (.int (2 : Int32)), .val (.int (0 : Int32)), .val (.int y0)] [(.ref a3)])) _
    refine XS.iloadN X0.here hx rfl (hb hby own_d8_27) rfl ?_
    show Steps p.tables e below (s₁.setTop (mkF m 28 #[.val (.ref a1), .val (.int (0 : Int32)), .val (.ref a3), .val (.int (0 : Int32)), .val (.int (2 : Int32)), .val (.int (0 : Int32)), .val (.int y0)] [(.int (0 : Int32)), (.ref a3)])) _
    refine XS.iload X0.here hx rfl (hb hby own_d8_28) rfl ?_
    show Steps p.tables e below (s₁.setTop (mkF m 30 #[.val (.ref a1), .val (.int (0 : Int32)), .val (.ref a3), .val (.int (0 : Int32)), .val (.int (2 : Int32)), .val (.int (0 : Int32)), .val (.int y0)] [(.int y0), (.int (0 : Int32)), (.ref a3)])) _
    refine XS.i2b X0.here hx rfl (hb hby own_d8_30) rfl ?_
    show Steps p.tables e below (s₁.setTop (mkF m 31 #[.val (.ref a1), .val (.int (0 : Int32)), .val (.ref a3), .val (.int (0 : Int32)), .val (.int (2 : Int32)), .val (.int (0 : Int32)), .val (.int y0)] [(.int (y0.toInt8.toInt32)), (.int (0 : Int32)), (.ref a3)])) _
    refine st3 _ ?_
    show Steps p.tables e below (T3.setTop (mkF m 32 #[.val (.ref a1), .val (.int (0 : Int32)), .val (.ref a3), .val (.int (0 : Int32)), .val (.int (2 : Int32)), .val (.int (0 : Int32)), .val (.int y0)] [])) _
    refine XS.iinc X3.here hx rfl (hb hby own_d8_32) rfl (l' := #[.val (.ref a1), .val (.int (1 : Int32)), .val (.ref a3), .val (.int (0 : Int32)), .val (.int (2 : Int32)), .val (.int (0 : Int32)), .val (.int y0)]) rfl ?_
    show Steps p.tables e below (T3.setTop (mkF m 35 #[.val (.ref a1), .val (.int (1 : Int32)), .val (.ref a3), .val (.int (0 : Int32)), .val (.int (2 : Int32)), .val (.int (0 : Int32)), .val (.int y0)] [])) _
    refine XS.iinc X3.here hx rfl (hb hby own_d8_35) rfl (l' := #[.val (.ref a1), .val (.int (1 : Int32)), .val (.ref a3), .val (.int (1 : Int32)), .val (.int (2 : Int32)), .val (.int (0 : Int32)), .val (.int y0)]) rfl ?_
    show Steps p.tables e below (T3.setTop (mkF m 38 #[.val (.ref a1), .val (.int (1 : Int32)), .val (.ref a3), .val (.int (1 : Int32)), .val (.int (2 : Int32)), .val (.int (0 : Int32)), .val (.int y0)] [])) _
    refine XS.iinc X3.here hx rfl (hb hby own_d8_38) rfl (l' := #[.val (.ref a1), .val (.int (1 : Int32)), .val (.ref a3), .val (.int (1 : Int32)), .val (.int (2 : Int32)), .val (.int (1 : Int32)), .val (.int y0)]) rfl ?_
    show Steps p.tables e below (T3.setTop (mkF m 41 #[.val (.ref a1), .val (.int (1 : Int32)), .val (.ref a3), .val (.int (1 : Int32)), .val (.int (2 : Int32)), .val (.int (1 : Int32)), .val (.int y0)] [])) _
    refine XS.goto X3.here hx rfl (pc0 := 41) (pc' := 3) rfl (hb hby own_d8_41) (by decide) (by decide) ?_
    show Steps p.tables e below (T3.setTop (mkF m 3 #[.val (.ref a1), .val (.int (1 : Int32)), .val (.ref a3), .val (.int (1 : Int32)), .val (.int (2 : Int32)), .val (.int (1 : Int32)), .val (.int y0)] [])) _
    refine XS.iload X3.here hx rfl (hb hby own_d8_3) rfl ?_
    show Steps p.tables e below (T3.setTop (mkF m 5 #[.val (.ref a1), .val (.int (1 : Int32)), .val (.ref a3), .val (.int (1 : Int32)), .val (.int (2 : Int32)), .val (.int (1 : Int32)), .val (.int y0)] [(.int (1 : Int32))])) _
    refine XS.iload X3.here hx rfl (hb hby own_d8_5) rfl ?_
    show Steps p.tables e below (T3.setTop (mkF m 7 #[.val (.ref a1), .val (.int (1 : Int32)), .val (.ref a3), .val (.int (1 : Int32)), .val (.int (2 : Int32)), .val (.int (1 : Int32)), .val (.int y0)] [(.int (2 : Int32)), (.int (1 : Int32))])) _
    refine XS.icmpNo X3.here hx rfl (hb hby own_d8_7) rfl (tlt (by decide : (1 : Int32) < (2 : Int32))).2.1 ?_
    show Steps p.tables e below (T3.setTop (mkF m 10 #[.val (.ref a1), .val (.int (1 : Int32)), .val (.ref a3), .val (.int (1 : Int32)), .val (.int (2 : Int32)), .val (.int (1 : Int32)), .val (.int y0)] [])) _
    refine XS.aloadN X3.here hx rfl (hb hby own_d8_10) rfl rfl ?_
    show Steps p.tables e below (T3.setTop (mkF m 11 #[.val (.ref a1), .val (.int (1 : Int32)), .val (.ref a3), .val (.int (1 : Int32)), .val (.int (2 : Int32)), .val (.int (1 : Int32)), .val (.int y0)] [(.ref a1)])) _
    refine XS.iloadN X3.here hx rfl (hb hby own_d8_11) rfl ?_
    show Steps p.tables e below (T3.setTop (mkF m 12 #[.val (.ref a1), .val (.int (1 : Int32)), .val (.ref a3), .val (.int (1 : Int32)), .val (.int (2 : Int32)), .val (.int (1 : Int32)), .val (.int y0)] [(.int (1 : Int32)), (.ref a1)])) _
    refine X3.caload hx (j := (1 : Int32)) (v := (.int y1)) (by rw [e3]; exact Ar8.1) (State.isArrayOf_alike hZ.alike Ar8.2.1) Ar8.2.2 hin8 hat8 (g := (mkF m 12 #[.val (.ref a1), .val (.int (1 : Int32)), .val (.ref a3), .val (.int (1 : Int32)), .val (.int (2 : Int32)), .val (.int (1 : Int32)), .val (.int y0)] [(.int (1 : Int32)), (.ref a1)])) rfl rfl (hb hby own_d8_12) _ ?_
    show Steps p.tables e below (T3.setTop (mkF m 13 #[.val (.ref a1), .val (.int (1 : Int32)), .val (.ref a3), .val (.int (1 : Int32)), .val (.int (2 : Int32)), .val (.int (1 : Int32)), .val (.int y0)] [(.int y1)])) _
    refine XS.istore X3.here hx rfl (hb hby own_d8_13) rfl (l' := #[.val (.ref a1), .val (.int (1 : Int32)), .val (.ref a3), .val (.int (1 : Int32)), .val (.int (2 : Int32)), .val (.int (1 : Int32)), .val (.int y1)]) rfl ?_
    show Steps p.tables e below (T3.setTop (mkF m 15 #[.val (.ref a1), .val (.int (1 : Int32)), .val (.ref a3), .val (.int (1 : Int32)), .val (.int (2 : Int32)), .val (.int (1 : Int32)), .val (.int y1)] [])) _
    refine XS.iload X3.here hx rfl (hb hby own_d8_15) rfl ?_
    show Steps p.tables e below (T3.setTop (mkF m 17 #[.val (.ref a1), .val (.int (1 : Int32)), .val (.ref a3), .val (.int (1 : Int32)), .val (.int (2 : Int32)), .val (.int (1 : Int32)), .val (.int y1)] [(.int y1)])) _
    refine XS.sipush X3.here hx rfl (hb hby own_d8_17) ?_
    show Steps p.tables e below (T3.setTop (mkF m 20 #[.val (.ref a1), .val (.int (1 : Int32)), .val (.ref a3), .val (.int (1 : Int32)), .val (.int (2 : Int32)), .val (.int (1 : Int32)), .val (.int y1)] [(.int (255 : Int32)), (.int y1)])) _
    refine XS.icmpYes X3.here hx rfl (pc0 := 20) (pc' := 26) rfl (hb hby own_d8_20) rfl (flt hp1).2.2.2 (by decide) (by decide) ?_
    show Steps p.tables e below (T3.setTop (mkF m 26 #[.val (.ref a1), .val (.int (1 : Int32)), .val (.ref a3), .val (.int (1 : Int32)), .val (.int (2 : Int32)), .val (.int (1 : Int32)), .val (.int y1)] [])) _
    refine XS.aloadN X3.here hx rfl (hb hby own_d8_26) rfl rfl ?_
    show Steps p.tables e below (T3.setTop (mkF m 27 #[.val (.ref a1), .val (.int (1 : Int32)), .val (.ref a3), .val (.int (1 : Int32)), .val (.int (2 : Int32)), .val (.int (1 : Int32)), .val (.int y1)] [(.ref a3)])) _
    refine XS.iloadN X3.here hx rfl (hb hby own_d8_27) rfl ?_
    show Steps p.tables e below (T3.setTop (mkF m 28 #[.val (.ref a1), .val (.int (1 : Int32)), .val (.ref a3), .val (.int (1 : Int32)), .val (.int (2 : Int32)), .val (.int (1 : Int32)), .val (.int y1)] [(.int (1 : Int32)), (.ref a3)])) _
    refine XS.iload X3.here hx rfl (hb hby own_d8_28) rfl ?_
    show Steps p.tables e below (T3.setTop (mkF m 30 #[.val (.ref a1), .val (.int (1 : Int32)), .val (.ref a3), .val (.int (1 : Int32)), .val (.int (2 : Int32)), .val (.int (1 : Int32)), .val (.int y1)] [(.int y1), (.int (1 : Int32)), (.ref a3)])) _
    refine XS.i2b X3.here hx rfl (hb hby own_d8_30) rfl ?_
    show Steps p.tables e below (T3.setTop (mkF m 31 #[.val (.ref a1), .val (.int (1 : Int32)), .val (.ref a3), .val (.int (1 : Int32)), .val (.int (2 : Int32)), .val (.int (1 : Int32)), .val (.int y1)] [(.int (y1.toInt8.toInt32)), (.int (1 : Int32)), (.ref a3)])) _
    refine st10 _ ?_
    show Steps p.tables e below (T10.setTop (mkF m 32 #[.val (.ref a1), .val (.int (1 : Int32)), .val (.ref a3), .val (.int (1 : Int32)), .val (.int (2 : Int32)), .val (.int (1 : Int32)), .val (.int y1)] [])) _
    refine XS.iinc X10.here hx rfl (hb hby own_d8_32) rfl (l' := #[.val (.ref a1), .val (.int (2 : Int32)), .val (.ref a3), .val (.int (1 : Int32)), .val (.int (2 : Int32)), .val (.int (1 : Int32)), .val (.int y1)]) rfl ?_
    show Steps p.tables e below (T10.setTop (mkF m 35 #[.val (.ref a1), .val (.int (2 : Int32)), .val (.ref a3), .val (.int (1 : Int32)), .val (.int (2 : Int32)), .val (.int (1 : Int32)), .val (.int y1)] [])) _
    refine XS.iinc X10.here hx rfl (hb hby own_d8_35) rfl (l' := #[.val (.ref a1), .val (.int (2 : Int32)), .val (.ref a3), .val (.int (2 : Int32)), .val (.int (2 : Int32)), .val (.int (1 : Int32)), .val (.int y1)]) rfl ?_
    show Steps p.tables e below (T10.setTop (mkF m 38 #[.val (.ref a1), .val (.int (2 : Int32)), .val (.ref a3), .val (.int (2 : Int32)), .val (.int (2 : Int32)), .val (.int (1 : Int32)), .val (.int y1)] [])) _
    refine XS.iinc X10.here hx rfl (hb hby own_d8_38) rfl (l' := #[.val (.ref a1), .val (.int (2 : Int32)), .val (.ref a3), .val (.int (2 : Int32)), .val (.int (2 : Int32)), .val (.int (2 : Int32)), .val (.int y1)]) rfl ?_
    show Steps p.tables e below (T10.setTop (mkF m 41 #[.val (.ref a1), .val (.int (2 : Int32)), .val (.ref a3), .val (.int (2 : Int32)), .val (.int (2 : Int32)), .val (.int (2 : Int32)), .val (.int y1)] [])) _
    refine XS.goto X10.here hx rfl (pc0 := 41) (pc' := 3) rfl (hb hby own_d8_41) (by decide) (by decide) ?_
    show Steps p.tables e below (T10.setTop (mkF m 3 #[.val (.ref a1), .val (.int (2 : Int32)), .val (.ref a3), .val (.int (2 : Int32)), .val (.int (2 : Int32)), .val (.int (2 : Int32)), .val (.int y1)] [])) _
    refine XS.iload X10.here hx rfl (hb hby own_d8_3) rfl ?_
    show Steps p.tables e below (T10.setTop (mkF m 5 #[.val (.ref a1), .val (.int (2 : Int32)), .val (.ref a3), .val (.int (2 : Int32)), .val (.int (2 : Int32)), .val (.int (2 : Int32)), .val (.int y1)] [(.int (2 : Int32))])) _
    refine XS.iload X10.here hx rfl (hb hby own_d8_5) rfl ?_
    show Steps p.tables e below (T10.setTop (mkF m 7 #[.val (.ref a1), .val (.int (2 : Int32)), .val (.ref a3), .val (.int (2 : Int32)), .val (.int (2 : Int32)), .val (.int (2 : Int32)), .val (.int y1)] [(.int (2 : Int32)), (.int (2 : Int32))])) _
    refine XS.icmpYes X10.here hx rfl (pc0 := 7) (pc' := 44) rfl (hb hby own_d8_7) rfl (flt (by decide : ¬ ((2 : Int32) < (2 : Int32)))).2.1 (by decide) (by decide) ?_
    show Steps p.tables e below (T10.setTop (mkF m 44 #[.val (.ref a1), .val (.int (2 : Int32)), .val (.ref a3), .val (.int (2 : Int32)), .val (.int (2 : Int32)), .val (.int (2 : Int32)), .val (.int y1)] [])) _
    refine XS.iload X10.here hx rfl (hb hby own_d8_44) rfl ?_
    show Steps p.tables e below (T10.setTop (mkF m 46 #[.val (.ref a1), .val (.int (2 : Int32)), .val (.ref a3), .val (.int (2 : Int32)), .val (.int (2 : Int32)), .val (.int (2 : Int32)), .val (.int y1)] [(.int (2 : Int32))])) _
    exact retI X10 hx Bd.returns (hb hby own_d8_46) hr
  · show own_vB_Q8 Z a1 a3 k_a1 y0 y1 k_a3 h0 n0 _ T10.heap _
    rw [e10]
    exact ⟨(by rw [own_vB_f8]), N11, K13, V_a3_10⟩
-- body 7, variant A
theorem own_d7_0 : decode jdk_52_method_16_code 0 = .ok (.iload_n 2, 1) := by decide +kernel
theorem own_d7_1 : decode jdk_52_method_16_code 1 = .ok (.newarray .byte, 2) := by decide +kernel
theorem own_d7_3 : decode jdk_52_method_16_code 3 = .ok (.astore_n 3, 1) := by decide +kernel
theorem own_d7_4 : decode jdk_52_method_16_code 4 = .ok (.aload_n 0, 1) := by decide +kernel
theorem own_d7_5 : decode jdk_52_method_16_code 5 = .ok (.iload_n 1, 1) := by decide +kernel
theorem own_d7_6 : decode jdk_52_method_16_code 6 = .ok (.aload_n 3, 1) := by decide +kernel
theorem own_d7_7 : decode jdk_52_method_16_code 7 = .ok (.iconst 0, 1) := by decide +kernel
theorem own_d7_8 : decode jdk_52_method_16_code 8 = .ok (.iload_n 2, 1) := by decide +kernel
theorem own_d7_9 : decode jdk_52_method_16_code 9 = .ok (.invokestatic 115, 3) := by decide +kernel
theorem own_d7_12 : decode jdk_52_method_16_code 12 = .ok (.istore 4, 2) := by decide +kernel
theorem own_d7_14 : decode jdk_52_method_16_code 14 = .ok (.iload 4, 2) := by decide +kernel
theorem own_d7_16 : decode jdk_52_method_16_code 16 = .ok (.iload_n 2, 1) := by decide +kernel
theorem own_d7_17 : decode jdk_52_method_16_code 17 = .ok (.if_icmp .eq 40, 3) := by decide +kernel
theorem own_d7_57 : decode jdk_52_method_16_code 57 = .ok (.aload_n 3, 1) := by decide +kernel
theorem own_d7_58 : decode jdk_52_method_16_code 58 = .ok (.areturn, 1) := by decide +kernel
theorem own_vA_ef7 (m : MethodId) (x0 : Addr) : entryFrame m #[(.ref x0), (.int (0 : Int32)), (.int (1 : Int32))] 6 = mkF m 0 #[.val (.ref x0), .val (.int (0 : Int32)), .val (.int (1 : Int32)), .unset, .unset, .unset] [] := by first | (simp [entryFrame, mkF, argsToLocals, Value.category]; done) | rfl
def own_vA_Q7 (Z : State) (a1 : Addr) (k_a1 : ClassId) (y0 : Int32) (h0 : Heap) (n0 : Nat) (v : Option Value) (h : Heap) (L : List Loc) : Prop := ∃ (r : Addr) (kr1 : ClassId), v = some (.ref r) ∧ Fr n0 L ∧ Keep h0 h [] ∧ h0.size ≤ r ∧ Arv Z h r kr1 .byte (1 : Int32) [(.int (nar .byte (y0.toInt8.toInt32)))] (.int (0 : Int32))
set_option maxRecDepth 65536 in
set_option maxHeartbeats 40000000 in
theorem own_vA_rm7 (l : Launch) (Z : State) (a0 : Array Value) (hw : ∀ d ∈ tables_1, d.before a0 Z = true) (ws : List Jvm.Cond) (a1 : Addr) (k_a1 : ClassId) (y0 : Int32) (h0 : Heap) (n0 : Nat) (Z0 : n0 ≤ h0.size) (V_a1 : Arv Z h0 a1 k_a1 .char (1 : Int32) [(.int y0)] (.int (0 : Int32))) (hp0 : ¬ (255 : Int32) < y0) :
    MetFree l (⟨"java/lang/StringUTF16", "compress", "([CII)[B"⟩ : MethodName) (head1 (Jvm.Cond.code (⟨"java/lang/StringUTF16", "compress", "([CII)[B"⟩ : MethodName) jdk_52_method_16_code 6 (some (.array .byte)) :: ws) ({ frames := 1, cells := 1, slots := 1, locals := 18 } : Room)) (fun a U => a = #[(.ref a1), (.int (0 : Int32)), (.int (1 : Int32))] ∧ Z.Warmed39 U.vm ∧ U.heap = h0) (fun _ _ _ _ _ => True) (fun _ U o U' => ∃ v L, o = .returned v ∧ own_vA_Q7 Z a1 k_a1 y0 h0 n0 v U'.heap L ∧ FrameEnd U o U' L ({ frames := 1, cells := 1, slots := 1, locals := 18 } : Room).cells ({ frames := 1, cells := 1, slots := 1, locals := 18 } : Room).slots) := by
  refine MetFree.of_bodySF (plainFor_of_name own_pn29) hisR ?_
  intro p e s m args below meth c s₁ Bd hml0 hP hK
  obtain ⟨rfl, hZ, hh⟩ := hP
  have hx := Bd.exec
  have hby := Bd.bytes
  have hml : c.maxLocals = 6 := hml0
  have hown : s.vm.findClass "java/lang/StringUTF16" = some m.cls := findClass_of_methodNamed Bd.named
  have hnm := (name_of_methodNamed Bd.named Bd.method).1
  have X0 : Stand p l e ({ frames := 1, cells := 1, slots := 1, locals := 18 } : Room) s m #[(.ref a1), (.int (0 : Int32)), (.int (1 : Int32))] below meth c s₁ [] 0 0 := Stand.of_body Bd
  have hS0 : s.Since s.vm 0 := (State.WarmedH.refl s).since 0
  have hk0 : 0 ≤ h0.size := Nat.zero_le _
  have hlk := Bd.notSynchronized
  have e0 : s₁.heap = h0 := by rw [← hh, Bd.state]; rfl
  have N0 := Fr.nil n0
  have pre0 : ∀ t, Steps p.tables e below (s₁.setTop (mkF m 0 #[.val (.ref a1), .val (.int (0 : Int32)), .val (.int (1 : Int32)), .unset, .unset, .unset] [])) t → Steps p.tables e below (s₁.setTop (entryFrame m #[(.ref a1), (.int (0 : Int32)), (.int (1 : Int32))] 6)) t := fun t k => castTop (own_vA_ef7 m a1) k
  obtain ⟨T1, h1, k1, X1, e1, E1, A1, st1⟩ := newP X0 hx hZ (hw _ (List.mem_of_getElem? (i := 32) rfl)) e0 (g := (mkF m 1 #[.val (.ref a1), .val (.int (0 : Int32)), .val (.int (1 : Int32)), .unset, .unset, .unset] [(.int (1 : Int32))])) rfl (hb hby own_d7_1) rfl (by decide) (cap := 1) (by decide) (by decide) (by decide) (by decide)
  obtain ⟨b1, g1⟩ : ∃ z, z = h0.size := ⟨_, rfl⟩
  rw [← g1] at A1 st1
  have ne_a1_b1 : a1 ≠ b1 := Nat.ne_of_lt (Nat.lt_of_lt_of_le V_a1.lt (Nat.le_of_eq g1.symm))
  have g_b1 : n0 ≤ b1 := Nat.le_trans Z0 (Nat.le_of_eq g1.symm)
  have sz_b1 : h0.size ≤ b1 := Nat.le_of_eq g1.symm
  have f2 := V_a1.ext E1
  have Z3 := Nat.le_trans Z0 E1.1
  have K4 : Keep h0 h1 [] := (Keep.refl h0 _).ext E1
  have V_b1 : Arv Z h1 b1 k1 .byte (1 : Int32) [(.int (0 : Int32))] (.int (0 : Int32)) := (Arv.new A1 (by decide)).pad (pad_rep [] (.int (0 : Int32)) 1)
  obtain ⟨v5, _, ⟨T5, L5, k5, n5⟩, -, X5, ⟨Lc5, hQ5, l5, y5, z5⟩, st5⟩ := Jvm.LawKit.callS X1 hx (y := (⟨"java/lang/StringUTF16", "compress", "([CI[BII)I"⟩ : MethodName)) hown (mvT hZ (hw _ (List.mem_of_getElem? (i := 33) rfl))) (mvT hZ (hw _ (List.mem_of_getElem? (i := 34) rfl))) (mvT hZ (hw _ (List.mem_of_getElem? (i := 30) rfl))) (mvT hZ (hw _ (List.mem_of_getElem? (i := 35) rfl))) (by decide) (backOf (W := 0) (own_vA_rm8 l Z a0 hw [] a1 b1 k_a1 y0 k1 h1 n0 Z3 f2 V_b1 hp0 g_b1 ne_a1_b1) hZ (hw _ (List.mem_of_getElem? (i := 35) rfl)) (hw _ (List.mem_of_getElem? (i := 30) rfl)) (by decide) (by decide)) (g := (mkF m 9 #[.val (.ref a1), .val (.int (0 : Int32)), .val (.int (1 : Int32)), .val (.ref b1), .unset, .unset] [(.int (1 : Int32)), (.int (0 : Int32)), (.ref b1), (.int (0 : Int32)), (.ref a1)])) rfl (by rw [hml]; rfl) (argsL := [(.ref a1), (.int (0 : Int32)), (.ref b1), (.int (0 : Int32)), (.int (1 : Int32))]) (rest := []) (lenOf own_pd61 rfl) rfl (by show 2 * 0 + _ ≤ _; exact Nat.le_of_eq rfl) (hb hby own_d7_9) (fun _ _ => ⟨rfl, e1, (by decide : 1 + 0 ≤ _), (by decide : 1 + 0 ≤ _)⟩)
  dsimp only [Pt.U, Pt.locs, Pt.cells, Pt.slots] at X5 l5 y5 z5 st5 hQ5
  subst l5 y5 z5
  obtain ⟨hv5, N5q, K5, Q5_0⟩ := hQ5
  have f6 := f2.keep K5 (ninS ne_a1_b1 nin0)
  have Z8 := Nat.le_trans Z3 K5.1
  have K9 : Keep h0 T5.heap [] := Keep.trans K4 K5 (allS (Or.inr sz_b1) all0)
  have N10 := Fr.app N0 N5q
  rw [show (own_vA_f8) = (1 : Int32) from by first | rfl | decide | simp [own_vA_f8]] at hv5
  subst hv5
  obtain ⟨fs, hr, hrun, hended, hW, hsame⟩ := X5.leave (hlocks := hlk) (v := some (.ref b1)) (fun h => by rw [Bd.returns] at h; cases h)
  refine ⟨_, _, pre0 _ ?_, hrun, hended, _, _, rfl, ?_, ⟨_, rfl⟩, hW, hsame.mono (by decide) (by decide)⟩
  · show Steps p.tables e below (s₁.setTop (mkF m 0 #[.val (.ref a1), .val (.int (0 : Int32)), .val (.int (1 : Int32)), .unset, .unset, .unset] [])) _
    refine XS.iloadN X0.here hx rfl (hb hby own_d7_0) rfl ?_
    show Steps p.tables e below (s₁.setTop (mkF m 1 #[.val (.ref a1), .val (.int (0 : Int32)), .val (.int (1 : Int32)), .unset, .unset, .unset] [(.int (1 : Int32))])) _
    refine st1 _ ?_
    show Steps p.tables e below (T1.setTop (mkF m 3 #[.val (.ref a1), .val (.int (0 : Int32)), .val (.int (1 : Int32)), .unset, .unset, .unset] [(.ref b1)])) _
    refine XS.astoreN X1.here hx rfl (hb hby own_d7_3) rfl rfl (l' := #[.val (.ref a1), .val (.int (0 : Int32)), .val (.int (1 : Int32)), .val (.ref b1), .unset, .unset]) rfl ?_
    show Steps p.tables e below (T1.setTop (mkF m 4 #[.val (.ref a1), .val (.int (0 : Int32)), .val (.int (1 : Int32)), .val (.ref b1), .unset, .unset] [])) _
    refine XS.aloadN X1.here hx rfl (hb hby own_d7_4) rfl rfl ?_
    show Steps p.tables e below (T1.setTop (mkF m 5 #[.val (.ref a1), .val (.int (0 : Int32)), .val (.int (1 : Int32)), .val (.ref b1), .unset, .unset] [(.ref a1)])) _
    refine XS.iloadN X1.here hx rfl (hb hby own_d7_5) rfl ?_
    show Steps p.tables e below (T1.setTop (mkF m 6 #[.val (.ref a1), .val (.int (0 : Int32)), .val (.int (1 : Int32)), .val (.ref b1), .unset, .unset] [(.int (0 : Int32)), (.ref a1)])) _
    refine XS.aloadN X1.here hx rfl (hb hby own_d7_6) rfl rfl ?_
    show Steps p.tables e below (T1.setTop (mkF m 7 #[.val (.ref a1), .val (.int (0 : Int32)), .val (.int (1 : Int32)), .val (.ref b1), .unset, .unset] [(.ref b1), (.int (0 : Int32)), (.ref a1)])) _
    refine XS.iconst X1.here hx rfl (hb hby own_d7_7) ?_
    show Steps p.tables e below (T1.setTop (mkF m 8 #[.val (.ref a1), .val (.int (0 : Int32)), .val (.int (1 : Int32)), .val (.ref b1), .unset, .unset] [(.int (0 : Int32)), (.ref b1), (.int (0 : Int32)), (.ref a1)])) _
    refine XS.iloadN X1.here hx rfl (hb hby own_d7_8) rfl ?_
    show Steps p.tables e below (T1.setTop (mkF m 9 #[.val (.ref a1), .val (.int (0 : Int32)), .val (.int (1 : Int32)), .val (.ref b1), .unset, .unset] [(.int (1 : Int32)), (.int (0 : Int32)), (.ref b1), (.int (0 : Int32)), (.ref a1)])) _
    refine st5 _ ?_
    show Steps p.tables e below (T5.setTop (mkF m 12 #[.val (.ref a1), .val (.int (0 : Int32)), .val (.int (1 : Int32)), .val (.ref b1), .unset, .unset] [(.int (1 : Int32))])) _
    refine XS.istore X5.here hx rfl (hb hby own_d7_12) rfl (l' := #[.val (.ref a1), .val (.int (0 : Int32)), .val (.int (1 : Int32)), .val (.ref b1), .val (.int (1 : Int32)), .unset]) rfl ?_
    show Steps p.tables e below (T5.setTop (mkF m 14 #[.val (.ref a1), .val (.int (0 : Int32)), .val (.int (1 : Int32)), .val (.ref b1), .val (.int (1 : Int32)), .unset] [])) _
    refine XS.iload X5.here hx rfl (hb hby own_d7_14) rfl ?_
    show Steps p.tables e below (T5.setTop (mkF m 16 #[.val (.ref a1), .val (.int (0 : Int32)), .val (.int (1 : Int32)), .val (.ref b1), .val (.int (1 : Int32)), .unset] [(.int (1 : Int32))])) _
    refine XS.iloadN X5.here hx rfl (hb hby own_d7_16) rfl ?_
    show Steps p.tables e below (T5.setTop (mkF m 17 #[.val (.ref a1), .val (.int (0 : Int32)), .val (.int (1 : Int32)), .val (.ref b1), .val (.int (1 : Int32)), .unset] [(.int (1 : Int32)), (.int (1 : Int32))])) _
    refine XS.icmpYes X5.here hx rfl (pc0 := 17) (pc' := 57) rfl (hb hby own_d7_17) rfl (teq (by decide : (1 : Int32) = (1 : Int32))).1 (by decide) (by decide) ?_
    show Steps p.tables e below (T5.setTop (mkF m 57 #[.val (.ref a1), .val (.int (0 : Int32)), .val (.int (1 : Int32)), .val (.ref b1), .val (.int (1 : Int32)), .unset] [])) _
    refine XS.aloadN X5.here hx rfl (hb hby own_d7_57) rfl rfl ?_
    show Steps p.tables e below (T5.setTop (mkF m 58 #[.val (.ref a1), .val (.int (0 : Int32)), .val (.int (1 : Int32)), .val (.ref b1), .val (.int (1 : Int32)), .unset] [(.ref b1)])) _
    jvm_step X5.here [X5.here.top, hx, (hb hby own_d7_58), X5.method', Bd.returns, Value.isRef, FieldType.isReference]
    first | (intro acts; rw [hr _ acts rfl rfl rfl]) | rw [hr _ _ rfl rfl rfl]
    exact Steps.refl _
  · show own_vA_Q7 Z a1 k_a1 y0 h0 n0 _ T5.heap _
    exact ⟨b1, k1, rfl, N10, K9, sz_b1, Q5_0⟩
-- body 7, variant B
theorem own_vB_ef7 (m : MethodId) (x0 : Addr) : entryFrame m #[(.ref x0), (.int (0 : Int32)), (.int (2 : Int32))] 6 = mkF m 0 #[.val (.ref x0), .val (.int (0 : Int32)), .val (.int (2 : Int32)), .unset, .unset, .unset] [] := by first | (simp [entryFrame, mkF, argsToLocals, Value.category]; done) | rfl
def own_vB_Q7 (Z : State) (a1 : Addr) (k_a1 : ClassId) (y0 : Int32) (y1 : Int32) (h0 : Heap) (n0 : Nat) (v : Option Value) (h : Heap) (L : List Loc) : Prop := ∃ (r : Addr) (kr1 : ClassId), v = some (.ref r) ∧ Fr n0 L ∧ Keep h0 h [] ∧ h0.size ≤ r ∧ Arv Z h r kr1 .byte (2 : Int32) [(.int (nar .byte (y0.toInt8.toInt32))), (.int (nar .byte (y1.toInt8.toInt32)))] (.int (0 : Int32))
set_option maxRecDepth 65536 in
set_option maxHeartbeats 40000000 in
theorem own_vB_rm7 (l : Launch) (Z : State) (a0 : Array Value) (hw : ∀ d ∈ tables_1, d.before a0 Z = true) (ws : List Jvm.Cond) (a1 : Addr) (k_a1 : ClassId) (y0 : Int32) (y1 : Int32) (h0 : Heap) (n0 : Nat) (Z0 : n0 ≤ h0.size) (V_a1 : Arv Z h0 a1 k_a1 .char (2 : Int32) [(.int y0), (.int y1)] (.int (0 : Int32))) (hp0 : ¬ (255 : Int32) < y0) (hp1 : ¬ (255 : Int32) < y1) :
    MetFree l (⟨"java/lang/StringUTF16", "compress", "([CII)[B"⟩ : MethodName) (head1 (Jvm.Cond.code (⟨"java/lang/StringUTF16", "compress", "([CII)[B"⟩ : MethodName) jdk_52_method_16_code 6 (some (.array .byte)) :: ws) ({ frames := 1, cells := 1, slots := 2, locals := 18 } : Room)) (fun a U => a = #[(.ref a1), (.int (0 : Int32)), (.int (2 : Int32))] ∧ Z.Warmed39 U.vm ∧ U.heap = h0) (fun _ _ _ _ _ => True) (fun _ U o U' => ∃ v L, o = .returned v ∧ own_vB_Q7 Z a1 k_a1 y0 y1 h0 n0 v U'.heap L ∧ FrameEnd U o U' L ({ frames := 1, cells := 1, slots := 2, locals := 18 } : Room).cells ({ frames := 1, cells := 1, slots := 2, locals := 18 } : Room).slots) := by
  refine MetFree.of_bodySF (plainFor_of_name own_pn29) hisR ?_
  intro p e s m args below meth c s₁ Bd hml0 hP hK
  obtain ⟨rfl, hZ, hh⟩ := hP
  have hx := Bd.exec
  have hby := Bd.bytes
  have hml : c.maxLocals = 6 := hml0
  have hown : s.vm.findClass "java/lang/StringUTF16" = some m.cls := findClass_of_methodNamed Bd.named
  have hnm := (name_of_methodNamed Bd.named Bd.method).1
  have X0 : Stand p l e ({ frames := 1, cells := 1, slots := 2, locals := 18 } : Room) s m #[(.ref a1), (.int (0 : Int32)), (.int (2 : Int32))] below meth c s₁ [] 0 0 := Stand.of_body Bd
  have hS0 : s.Since s.vm 0 := (State.WarmedH.refl s).since 0
  have hk0 : 0 ≤ h0.size := Nat.zero_le _
  have hlk := Bd.notSynchronized
  have e0 : s₁.heap = h0 := by rw [← hh, Bd.state]; rfl
  have N0 := Fr.nil n0
  have pre0 : ∀ t, Steps p.tables e below (s₁.setTop (mkF m 0 #[.val (.ref a1), .val (.int (0 : Int32)), .val (.int (2 : Int32)), .unset, .unset, .unset] [])) t → Steps p.tables e below (s₁.setTop (entryFrame m #[(.ref a1), (.int (0 : Int32)), (.int (2 : Int32))] 6)) t := fun t k => castTop (own_vB_ef7 m a1) k
  obtain ⟨T1, h1, k1, X1, e1, E1, A1, st1⟩ := newP X0 hx hZ (hw _ (List.mem_of_getElem? (i := 32) rfl)) e0 (g := (mkF m 1 #[.val (.ref a1), .val (.int (0 : Int32)), .val (.int (2 : Int32)), .unset, .unset, .unset] [(.int (2 : Int32))])) rfl (hb hby own_d7_1) rfl (by decide) (cap := 2) (by decide) (by decide) (by decide) (by decide)
  obtain ⟨b1, g1⟩ : ∃ z, z = h0.size := ⟨_, rfl⟩
  rw [← g1] at A1 st1
  have ne_a1_b1 : a1 ≠ b1 := Nat.ne_of_lt (Nat.lt_of_lt_of_le V_a1.lt (Nat.le_of_eq g1.symm))
  have g_b1 : n0 ≤ b1 := Nat.le_trans Z0 (Nat.le_of_eq g1.symm)
  have sz_b1 : h0.size ≤ b1 := Nat.le_of_eq g1.symm
  have f2 := V_a1.ext E1
  have Z3 := Nat.le_trans Z0 E1.1
  have K4 : Keep h0 h1 [] := (Keep.refl h0 _).ext E1
  have V_b1 : Arv Z h1 b1 k1 .byte (2 : Int32) [(.int (0 : Int32)), (.int (0 : Int32))] (.int (0 : Int32)) := (Arv.new A1 (by decide)).pad (pad_rep [] (.int (0 : Int32)) 2)
  obtain ⟨v5, _, ⟨T5, L5, k5, n5⟩, -, X5, ⟨Lc5, hQ5, l5, y5, z5⟩, st5⟩ := Jvm.LawKit.callS X1 hx (y := (⟨"java/lang/StringUTF16", "compress", "([CI[BII)I"⟩ : MethodName)) hown (mvT hZ (hw _ (List.mem_of_getElem? (i := 33) rfl))) (mvT hZ (hw _ (List.mem_of_getElem? (i := 34) rfl))) (mvT hZ (hw _ (List.mem_of_getElem? (i := 30) rfl))) (mvT hZ (hw _ (List.mem_of_getElem? (i := 35) rfl))) (by decide) (backOf (W := 0) (own_vB_rm8 l Z a0 hw [] a1 b1 k_a1 y0 y1 k1 h1 n0 Z3 f2 V_b1 hp0 hp1 g_b1 ne_a1_b1) hZ (hw _ (List.mem_of_getElem? (i := 35) rfl)) (hw _ (List.mem_of_getElem? (i := 30) rfl)) (by decide) (by decide)) (g := (mkF m 9 #[.val (.ref a1), .val (.int (0 : Int32)), .val (.int (2 : Int32)), .val (.ref b1), .unset, .unset] [(.int (2 : Int32)), (.int (0 : Int32)), (.ref b1), (.int (0 : Int32)), (.ref a1)])) rfl (by rw [hml]; rfl) (argsL := [(.ref a1), (.int (0 : Int32)), (.ref b1), (.int (0 : Int32)), (.int (2 : Int32))]) (rest := []) (lenOf own_pd61 rfl) rfl (by show 2 * 0 + _ ≤ _; exact Nat.le_of_eq rfl) (hb hby own_d7_9) (fun _ _ => ⟨rfl, e1, (by decide : 1 + 0 ≤ _), (by decide : 2 + 0 ≤ _)⟩)
  dsimp only [Pt.U, Pt.locs, Pt.cells, Pt.slots] at X5 l5 y5 z5 st5 hQ5
  subst l5 y5 z5
  obtain ⟨hv5, N5q, K5, Q5_0⟩ := hQ5
  have f6 := f2.keep K5 (ninS ne_a1_b1 nin0)
  have Z8 := Nat.le_trans Z3 K5.1
  have K9 : Keep h0 T5.heap [] := Keep.trans K4 K5 (allS (Or.inr sz_b1) all0)
  have N10 := Fr.app N0 N5q
  rw [show (own_vB_f8) = (2 : Int32) from by first | rfl | decide | simp [own_vB_f8]] at hv5
  subst hv5
  obtain ⟨fs, hr, hrun, hended, hW, hsame⟩ := X5.leave (hlocks := hlk) (v := some (.ref b1)) (fun h => by rw [Bd.returns] at h; cases h)
  refine ⟨_, _, pre0 _ ?_, hrun, hended, _, _, rfl, ?_, ⟨_, rfl⟩, hW, hsame.mono (by decide) (by decide)⟩
  · show Steps p.tables e below (s₁.setTop (mkF m 0 #[.val (.ref a1), .val (.int (0 : Int32)), .val (.int (2 : Int32)), .unset, .unset, .unset] [])) _
    refine XS.iloadN X0.here hx rfl (hb hby own_d7_0) rfl ?_
    show Steps p.tables e below (s₁.setTop (mkF m 1 #[.val (.ref a1), .val (.int (0 : Int32)), .val (.int (2 : Int32)), .unset, .unset, .unset] [(.int (2 : Int32))])) _
    refine st1 _ ?_
    show Steps p.tables e below (T1.setTop (mkF m 3 #[.val (.ref a1), .val (.int (0 : Int32)), .val (.int (2 : Int32)), .unset, .unset, .unset] [(.ref b1)])) _
    refine XS.astoreN X1.here hx rfl (hb hby own_d7_3) rfl rfl (l' := #[.val (.ref a1), .val (.int (0 : Int32)), .val (.int (2 : Int32)), .val (.ref b1), .unset, .unset]) rfl ?_
    show Steps p.tables e below (T1.setTop (mkF m 4 #[.val (.ref a1), .val (.int (0 : Int32)), .val (.int (2 : Int32)), .val (.ref b1), .unset, .unset] [])) _
    refine XS.aloadN X1.here hx rfl (hb hby own_d7_4) rfl rfl ?_
    show Steps p.tables e below (T1.setTop (mkF m 5 #[.val (.ref a1), .val (.int (0 : Int32)), .val (.int (2 : Int32)), .val (.ref b1), .unset, .unset] [(.ref a1)])) _
    refine XS.iloadN X1.here hx rfl (hb hby own_d7_5) rfl ?_
    show Steps p.tables e below (T1.setTop (mkF m 6 #[.val (.ref a1), .val (.int (0 : Int32)), .val (.int (2 : Int32)), .val (.ref b1), .unset, .unset] [(.int (0 : Int32)), (.ref a1)])) _
    refine XS.aloadN X1.here hx rfl (hb hby own_d7_6) rfl rfl ?_
    show Steps p.tables e below (T1.setTop (mkF m 7 #[.val (.ref a1), .val (.int (0 : Int32)), .val (.int (2 : Int32)), .val (.ref b1), .unset, .unset] [(.ref b1), (.int (0 : Int32)), (.ref a1)])) _
    refine XS.iconst X1.here hx rfl (hb hby own_d7_7) ?_
    show Steps p.tables e below (T1.setTop (mkF m 8 #[.val (.ref a1), .val (.int (0 : Int32)), .val (.int (2 : Int32)), .val (.ref b1), .unset, .unset] [(.int (0 : Int32)), (.ref b1), (.int (0 : Int32)), (.ref a1)])) _
    refine XS.iloadN X1.here hx rfl (hb hby own_d7_8) rfl ?_
    show Steps p.tables e below (T1.setTop (mkF m 9 #[.val (.ref a1), .val (.int (0 : Int32)), .val (.int (2 : Int32)), .val (.ref b1), .unset, .unset] [(.int (2 : Int32)), (.int (0 : Int32)), (.ref b1), (.int (0 : Int32)), (.ref a1)])) _
    refine st5 _ ?_
    show Steps p.tables e below (T5.setTop (mkF m 12 #[.val (.ref a1), .val (.int (0 : Int32)), .val (.int (2 : Int32)), .val (.ref b1), .unset, .unset] [(.int (2 : Int32))])) _
    refine XS.istore X5.here hx rfl (hb hby own_d7_12) rfl (l' := #[.val (.ref a1), .val (.int (0 : Int32)), .val (.int (2 : Int32)), .val (.ref b1), .val (.int (2 : Int32)), .unset]) rfl ?_
    show Steps p.tables e below (T5.setTop (mkF m 14 #[.val (.ref a1), .val (.int (0 : Int32)), .val (.int (2 : Int32)), .val (.ref b1), .val (.int (2 : Int32)), .unset] [])) _
    refine XS.iload X5.here hx rfl (hb hby own_d7_14) rfl ?_
    show Steps p.tables e below (T5.setTop (mkF m 16 #[.val (.ref a1), .val (.int (0 : Int32)), .val (.int (2 : Int32)), .val (.ref b1), .val (.int (2 : Int32)), .unset] [(.int (2 : Int32))])) _
    refine XS.iloadN X5.here hx rfl (hb hby own_d7_16) rfl ?_
    show Steps p.tables e below (T5.setTop (mkF m 17 #[.val (.ref a1), .val (.int (0 : Int32)), .val (.int (2 : Int32)), .val (.ref b1), .val (.int (2 : Int32)), .unset] [(.int (2 : Int32)), (.int (2 : Int32))])) _
    refine XS.icmpYes X5.here hx rfl (pc0 := 17) (pc' := 57) rfl (hb hby own_d7_17) rfl (teq (by decide : (2 : Int32) = (2 : Int32))).1 (by decide) (by decide) ?_
    show Steps p.tables e below (T5.setTop (mkF m 57 #[.val (.ref a1), .val (.int (0 : Int32)), .val (.int (2 : Int32)), .val (.ref b1), .val (.int (2 : Int32)), .unset] [])) _
    refine XS.aloadN X5.here hx rfl (hb hby own_d7_57) rfl rfl ?_
    show Steps p.tables e below (T5.setTop (mkF m 58 #[.val (.ref a1), .val (.int (0 : Int32)), .val (.int (2 : Int32)), .val (.ref b1), .val (.int (2 : Int32)), .unset] [(.ref b1)])) _
    jvm_step X5.here [X5.here.top, hx, (hb hby own_d7_58), X5.method', Bd.returns, Value.isRef, FieldType.isReference]
    first | (intro acts; rw [hr _ acts rfl rfl rfl]) | rw [hr _ _ rfl rfl rfl]
    exact Steps.refl _
  · show own_vB_Q7 Z a1 k_a1 y0 y1 h0 n0 _ T5.heap _
    exact ⟨b1, k1, rfl, N10, K9, sz_b1, Q5_0⟩
-- body 5, variant A
theorem own_d5_0 : decode jdk_42_method_149_code 0 = .ok (.aload_n 0, 1) := by decide +kernel
theorem own_d5_1 : decode jdk_42_method_149_code 1 = .ok (.invokespecial 1, 3) := by decide +kernel
theorem own_d5_4 : decode jdk_42_method_149_code 4 = .ok (.iload_n 3, 1) := by decide +kernel
theorem own_d5_5 : decode jdk_42_method_149_code 5 = .ok (.ifCond .ne 22, 3) := by decide +kernel
theorem own_d5_27 : decode jdk_42_method_149_code 27 = .ok (.getstatic 38, 3) := by decide +kernel
theorem own_d5_30 : decode jdk_42_method_149_code 30 = .ok (.ifCond .eq 28, 3) := by decide +kernel
theorem own_d5_33 : decode jdk_42_method_149_code 33 = .ok (.aload_n 1, 1) := by decide +kernel
theorem own_d5_34 : decode jdk_42_method_149_code 34 = .ok (.iload_n 2, 1) := by decide +kernel
theorem own_d5_35 : decode jdk_42_method_149_code 35 = .ok (.iload_n 3, 1) := by decide +kernel
theorem own_d5_36 : decode jdk_42_method_149_code 36 = .ok (.invokestatic 177, 3) := by decide +kernel
theorem own_d5_39 : decode jdk_42_method_149_code 39 = .ok (.astore 5, 2) := by decide +kernel
theorem own_d5_41 : decode jdk_42_method_149_code 41 = .ok (.aload_n 0, 1) := by decide +kernel
theorem own_d5_42 : decode jdk_42_method_149_code 42 = .ok (.aload 5, 2) := by decide +kernel
theorem own_d5_44 : decode jdk_42_method_149_code 44 = .ok (.iload_n 3, 1) := by decide +kernel
theorem own_d5_45 : decode jdk_42_method_149_code 45 = .ok (.invokestatic 47, 3) := by decide +kernel
theorem own_d5_48 : decode jdk_42_method_149_code 48 = .ok (.putfield 15, 3) := by decide +kernel
theorem own_d5_51 : decode jdk_42_method_149_code 51 = .ok (.aload_n 0, 1) := by decide +kernel
theorem own_d5_52 : decode jdk_42_method_149_code 52 = .ok (.aload 5, 2) := by decide +kernel
theorem own_d5_54 : decode jdk_42_method_149_code 54 = .ok (.putfield 9, 3) := by decide +kernel
theorem own_d5_57 : decode jdk_42_method_149_code 57 = .ok (.return_, 1) := by decide +kernel
theorem own_vA_ef5 (m : MethodId) (x0 : Addr) (x1 : Addr) : entryFrame m #[(.ref x0), (.ref x1), (.int (0 : Int32)), (.int (1 : Int32)), .null] 6 = mkF m 0 #[.val (.ref x0), .val (.ref x1), .val (.int (0 : Int32)), .val (.int (1 : Int32)), .val .null, .unset] [] := by first | (simp [entryFrame, mkF, argsToLocals, Value.category]; done) | rfl
def own_vA_Q5 (Z : State) (a1 : Addr) (a2 : Addr) (k_a2 : ClassId) (y0 : Int32) (w_COMPACT_STRINGS : Int32) (w_coder_a1 : Int32) (u_value_a1 : Value) (h0 : Heap) (n0 : Nat) (v : Option Value) (h : Heap) (L : List Loc) : Prop := ∃ (x1 : Addr) (kr1 : ClassId), v = none ∧ Fr n0 L ∧ Keep h0 h [a1] ∧ h0.size ≤ x1 ∧ Exa Z h a1 "java/lang/String" ∧ Fld Z h a1 "java/lang/String" "coder" "B" (.int (0 : Int32)) ∧ Fld Z h a1 "java/lang/String" "value" "[B" (.ref x1) ∧ Arv Z h x1 kr1 .byte (1 : Int32) [(.int (nar .byte (y0.toInt8.toInt32)))] (.int (0 : Int32))
set_option maxRecDepth 65536 in
set_option maxHeartbeats 40000000 in
theorem own_vA_rm5 (l : Launch) (Z : State) (a0 : Array Value) (hw : ∀ d ∈ tables_1, d.before a0 Z = true) (ws : List Jvm.Cond) (a1 : Addr) (a2 : Addr) (k_a2 : ClassId) (y0 : Int32) (w_COMPACT_STRINGS : Int32) (w_coder_a1 : Int32) (u_value_a1 : Value) (h0 : Heap) (n0 : Nat) (Z0 : n0 ≤ h0.size) (O0 : Old Z n0 h0) (V_a2 : Arv Z h0 a2 k_a2 .char (1 : Int32) [(.int y0)] (.int (0 : Int32))) (hp0 : ¬ (255 : Int32) < y0) (hcs : ¬ w_COMPACT_STRINGS = (0 : Int32)) (S_COMPACT_STRINGS : Sta Z Z.heap "java/lang/String" "COMPACT_STRINGS" "Z" (.int w_COMPACT_STRINGS)) (E_a1 : Exa Z h0 a1 "java/lang/String") (F_coder_a1 : Fld Z h0 a1 "java/lang/String" "coder" "B" (.int w_coder_a1)) (g_a1 : n0 ≤ a1) (F_value_a1 : Fld Z h0 a1 "java/lang/String" "value" "[B" u_value_a1) (ne_a2_a1 : a2 ≠ a1) :
    MetFree l (⟨"java/lang/String", "<init>", "([CIILjava/lang/Void;)V"⟩ : MethodName) (head1 (Jvm.Cond.code (⟨"java/lang/String", "<init>", "([CIILjava/lang/Void;)V"⟩ : MethodName) jdk_42_method_149_code 6 none :: ws) ({ frames := 2, cells := 1, slots := 1, locals := 35 } : Room)) (fun a U => a = #[(.ref a1), (.ref a2), (.int (0 : Int32)), (.int (1 : Int32)), .null] ∧ Z.Warmed39 U.vm ∧ U.heap = h0) (fun _ _ _ _ _ => True) (fun _ U o U' => ∃ v L, o = .returned v ∧ own_vA_Q5 Z a1 a2 k_a2 y0 w_COMPACT_STRINGS w_coder_a1 u_value_a1 h0 n0 v U'.heap L ∧ FrameEnd U o U' L ({ frames := 2, cells := 1, slots := 1, locals := 35 } : Room).cells ({ frames := 2, cells := 1, slots := 1, locals := 35 } : Room).slots) := by
  refine MetFree.of_bodySF (plainFor_of_name own_pn79) hisR ?_
  intro p e s m args below meth c s₁ Bd hml0 hP hK
  obtain ⟨rfl, hZ, hh⟩ := hP
  have hx := Bd.exec
  have hby := Bd.bytes
  have hml : c.maxLocals = 6 := hml0
  have hown : s.vm.findClass "java/lang/String" = some m.cls := findClass_of_methodNamed Bd.named
  have hnm := (name_of_methodNamed Bd.named Bd.method).1
  have X0 : Stand p l e ({ frames := 2, cells := 1, slots := 1, locals := 35 } : Room) s m #[(.ref a1), (.ref a2), (.int (0 : Int32)), (.int (1 : Int32)), .null] below meth c s₁ [] 0 0 := Stand.of_body Bd
  have hS0 : s.Since s.vm 0 := (State.WarmedH.refl s).since 0
  have hk0 : 0 ≤ h0.size := Nat.zero_le _
  have hlk := Bd.notSynchronized
  have e0 : s₁.heap = h0 := by rw [← hh, Bd.state]; rfl
  have N0 := Fr.nil n0
  have pre0 : ∀ t, Steps p.tables e below (s₁.setTop (mkF m 0 #[.val (.ref a1), .val (.ref a2), .val (.int (0 : Int32)), .val (.int (1 : Int32)), .val .null, .unset] [])) t → Steps p.tables e below (s₁.setTop (entryFrame m #[(.ref a1), (.ref a2), (.int (0 : Int32)), (.int (1 : Int32)), .null] 6)) t := fun t k => castTop (own_vA_ef5 m a1 a2) k
  obtain ⟨T1, X1, e1, st1⟩ := initO X0 hx hZ hown (hw _ (List.mem_of_getElem? (i := 24) rfl)) (hw _ (List.mem_of_getElem? (i := 25) rfl)) (hw _ (List.mem_of_getElem? (i := 26) rfl)) e0 (g := (mkF m 1 #[.val (.ref a1), .val (.ref a2), .val (.int (0 : Int32)), .val (.int (1 : Int32)), .val .null, .unset] [(.ref a1)])) rfl (by rw [hml]; rfl) rfl (hb hby own_d5_1) (by decide) (W := 0) (by show 2 * 0 + _ ≤ _; exact Nat.le_of_eq rfl) (by decide)
  obtain ⟨T2, X2, e2, st2⟩ := getS2 X1 hx hZ hown (host := "") (Or.inl (hw _ (List.mem_of_getElem? (i := 27) rfl))) Via.refl e1 (S_COMPACT_STRINGS.ext O0.2) (g := (mkF m 27 #[.val (.ref a1), .val (.ref a2), .val (.int (0 : Int32)), .val (.int (1 : Int32)), .val .null, .unset] [])) rfl (hb hby own_d5_27)
  obtain ⟨v3, _, ⟨T3, L3, k3, n3⟩, -, X3, ⟨Lc3, hQ3, l3, y3, z3⟩, st3⟩ := Jvm.LawKit.callS X2 hx (y := (⟨"java/lang/StringUTF16", "compress", "([CII)[B"⟩ : MethodName)) hown (mvT hZ (hw _ (List.mem_of_getElem? (i := 28) rfl))) (mvT hZ (hw _ (List.mem_of_getElem? (i := 29) rfl))) (mvT hZ (hw _ (List.mem_of_getElem? (i := 30) rfl))) (mvT hZ (hw _ (List.mem_of_getElem? (i := 31) rfl))) (by decide) (backOf (W := 0) (own_vA_rm7 l Z a0 hw [] a2 k_a2 y0 h0 n0 Z0 V_a2 hp0) hZ (hw _ (List.mem_of_getElem? (i := 31) rfl)) (hw _ (List.mem_of_getElem? (i := 30) rfl)) (by decide) (by decide)) (g := (mkF m 36 #[.val (.ref a1), .val (.ref a2), .val (.int (0 : Int32)), .val (.int (1 : Int32)), .val .null, .unset] [(.int (1 : Int32)), (.int (0 : Int32)), (.ref a2)])) rfl (by rw [hml]; rfl) (argsL := [(.ref a2), (.int (0 : Int32)), (.int (1 : Int32))]) (rest := []) (lenOf own_pd77 rfl) rfl (by show 2 * 0 + _ ≤ _; exact Nat.le_of_eq rfl) (hb hby own_d5_36) (fun _ _ => ⟨rfl, e2, (by decide : 0 + 1 ≤ _), (by decide : 0 + 1 ≤ _)⟩)
  dsimp only [Pt.U, Pt.locs, Pt.cells, Pt.slots] at X3 l3 y3 z3 st3 hQ3
  subst l3 y3 z3
  obtain ⟨r3, kr1_3, rfl, N3q, K3, hr3_r, Q3_0⟩ := hQ3
  have ne_a2_r3 : a2 ≠ r3 := Nat.ne_of_lt (Nat.lt_of_lt_of_le V_a2.lt hr3_r)
  have ne_a1_r3 : a1 ≠ r3 := Nat.ne_of_lt (Nat.lt_of_lt_of_le E_a1.lt hr3_r)
  have g_r3 : n0 ≤ r3 := Nat.le_trans Z0 hr3_r
  have sz_r3 : h0.size ≤ r3 := hr3_r
  have O4 := O0.keep K3 all0
  have f5 := V_a2.keep K3 nin0
  have f6 := E_a1.keep K3
  have f7 := F_coder_a1.keep K3 nin0
  have f8 := F_value_a1.keep K3 nin0
  have Z9 := Nat.le_trans Z0 K3.1
  have K10 : Keep h0 T3.heap [a1] := Keep.trans (Keep.refl h0 _) K3 all0
  have N11 := Fr.app N0 N3q
  obtain ⟨v12, _, ⟨T12, L12, k12, n12⟩, -, X12, ⟨Lc12, hQ12, l12, y12, z12⟩, st12⟩ := Jvm.LawKit.callS X3 hx (y := (⟨"java/lang/StringUTF16", "coderFromArrayLen", "([BI)B"⟩ : MethodName)) hown (mvT hZ (hw _ (List.mem_of_getElem? (i := 36) rfl))) (mvT hZ (hw _ (List.mem_of_getElem? (i := 37) rfl))) (mvT hZ (hw _ (List.mem_of_getElem? (i := 30) rfl))) (mvT hZ (hw _ (List.mem_of_getElem? (i := 38) rfl))) (by decide) (backOf (W := 1) (own_vA_rm9 l Z a0 hw [] r3 kr1_3 (nar .byte (y0.toInt8.toInt32)) T3.heap n0 Z9 Q3_0) hZ (hw _ (List.mem_of_getElem? (i := 38) rfl)) (hw _ (List.mem_of_getElem? (i := 30) rfl)) (by decide) (by decide)) (g := (mkF m 45 #[.val (.ref a1), .val (.ref a2), .val (.int (0 : Int32)), .val (.int (1 : Int32)), .val .null, .val (.ref r3)] [(.int (1 : Int32)), (.ref r3), (.ref a1)])) rfl (by rw [hml]; rfl) (argsL := [(.ref r3), (.int (1 : Int32))]) (rest := [(.ref a1)]) (lenOf own_pd78 rfl) rfl (by show 2 * 0 + _ ≤ _; exact Nat.le_of_eq rfl) (hb hby own_d5_45) (fun _ _ => ⟨rfl, rfl, (by decide : 1 + 0 ≤ _), (by decide : 1 + 0 ≤ _)⟩)
  dsimp only [Pt.U, Pt.locs, Pt.cells, Pt.slots] at X12 l12 y12 z12 st12 hQ12
  subst l12 y12 z12
  obtain ⟨hv12, N12q, e12⟩ := hQ12
  have N13 := Fr.app N11 N12q
  rw [show (own_vA_f9) = (0 : Int32) from by first | rfl | decide | simp [own_vA_f9]] at hv12
  subst hv12
  obtain ⟨T14, h14, X14, e14, W14, st14⟩ := putFN X12 hx hZ hown (hw _ (List.mem_of_getElem? (i := 39) rfl)) Via.refl e12 f7 f6 (Or.inr ⟨(hw _ (List.mem_of_getElem? (i := 40) rfl)), rfl, hnm⟩) (hw _ (List.mem_of_getElem? (i := 15) rfl)) (ty := .byte) (v' := .int (nar .byte (0 : Int32))) (by decide) rfl (fits_nar_byte _) (g := (mkF m 48 #[.val (.ref a1), .val (.ref a2), .val (.int (0 : Int32)), .val (.int (1 : Int32)), .val .null, .val (.ref r3)] [(.int (0 : Int32)), (.ref a1)])) rfl rfl (hb hby own_d5_48)
  have N15 := Fr.snoc X14 N13 g_a1
  have O16 := O4.wr W14 g_a1
  have Z17 := Nat.le_trans Z9 (Keep.of_wr W14).1
  have K18 : Keep h0 h14 [a1] := K10.wr W14 (Or.inl (List.mem_of_getElem? (i := 0) rfl))
  have f19 := f5.other W14 ne_a2_a1
  have f20 := f6.wr W14
  have f21 : Fld Z h14 a1 "java/lang/String" "coder" "B" (.int (0 : Int32)) := (by have qq := f7.same W14; rw [show nar .byte (0 : Int32) = (0 : Int32) from by decide] at qq; exact qq)
  have f22 := f8.other W14 (Or.inr (slot_ne (Or.inr (hw _ (List.mem_of_getElem? (i := 42) rfl))) (Or.inr (hw _ (List.mem_of_getElem? (i := 40) rfl))) (by decide) (t := (.array .byte)) (t' := .byte) (by decide) (by decide)))
  have f23 := Q3_0.other W14 (Ne.symm ne_a1_r3)
  obtain ⟨T24, h24, X24, e24, W24, st24⟩ := putF X14 hx hZ hown (host := "") (Or.inl (hw _ (List.mem_of_getElem? (i := 41) rfl))) Via.refl e14 f22 f20 (Or.inr ⟨(hw _ (List.mem_of_getElem? (i := 42) rfl)), rfl, hnm⟩) (hw _ (List.mem_of_getElem? (i := 15) rfl)) (ty := (.array .byte)) (by decide) rfl rfl (g := (mkF m 54 #[.val (.ref a1), .val (.ref a2), .val (.int (0 : Int32)), .val (.int (1 : Int32)), .val .null, .val (.ref r3)] [(.ref r3), (.ref a1)])) rfl rfl (hb hby own_d5_54)
  have N25 := Fr.snoc X24 N15 g_a1
  have O26 := O16.wr W24 g_a1
  have Z27 := Nat.le_trans Z17 (Keep.of_wr W24).1
  have K28 : Keep h0 h24 [a1] := K18.wr W24 (Or.inl (List.mem_of_getElem? (i := 0) rfl))
  have f29 := f19.other W24 ne_a2_a1
  have f30 := f20.wr W24
  have f31 := f21.other W24 (Or.inr (slot_ne (Or.inr (hw _ (List.mem_of_getElem? (i := 40) rfl))) (Or.inr (hw _ (List.mem_of_getElem? (i := 42) rfl))) (by decide) (t := .byte) (t' := (.array .byte)) (by decide) (by decide)))
  have f32 := f22.same W24
  have f33 := f23.other W24 (Ne.symm ne_a1_r3)
  obtain ⟨fs, hr, hrun, hended, hW, hsame⟩ := X24.leave (hlocks := hlk) (v := none) (fun _ => rfl)
  refine ⟨_, _, pre0 _ ?_, hrun, hended, _, _, rfl, ?_, ⟨_, rfl⟩, hW, hsame.mono (by decide) (by decide)⟩
  · show Steps p.tables e below (s₁.setTop (mkF m 0 #[.val (.ref a1), .val (.ref a2), .val (.int (0 : Int32)), .val (.int (1 : Int32)), .val .null, .unset] [])) _
    refine XS.aloadN X0.here hx rfl (hb hby own_d5_0) rfl rfl ?_
    show Steps p.tables e below (s₁.setTop (mkF m 1 #[.val (.ref a1), .val (.ref a2), .val (.int (0 : Int32)), .val (.int (1 : Int32)), .val .null, .unset] [(.ref a1)])) _
    refine st1 _ ?_
    show Steps p.tables e below (T1.setTop (mkF m 4 #[.val (.ref a1), .val (.ref a2), .val (.int (0 : Int32)), .val (.int (1 : Int32)), .val .null, .unset] [])) _
    refine XS.iloadN X1.here hx rfl (hb hby own_d5_4) rfl ?_
    show Steps p.tables e below (T1.setTop (mkF m 5 #[.val (.ref a1), .val (.ref a2), .val (.int (0 : Int32)), .val (.int (1 : Int32)), .val .null, .unset] [(.int (1 : Int32))])) _
    refine XS.ifYes X1.here hx rfl (pc0 := 5) (pc' := 27) rfl (hb hby own_d5_5) rfl ((if0 _ _).trans (feq (by decide : ¬ ((1 : Int32) = (0 : Int32)))).2) (by decide) (by decide) ?_
    show Steps p.tables e below (T1.setTop (mkF m 27 #[.val (.ref a1), .val (.ref a2), .val (.int (0 : Int32)), .val (.int (1 : Int32)), .val .null, .unset] [])) _
    refine st2 _ ?_
    show Steps p.tables e below (T2.setTop (mkF m 30 #[.val (.ref a1), .val (.ref a2), .val (.int (0 : Int32)), .val (.int (1 : Int32)), .val .null, .unset] [(.int w_COMPACT_STRINGS)])) _
    refine XS.ifNo X2.here hx rfl (hb hby own_d5_30) rfl ((if0 _ _).trans (feq hcs).1) ?_
    show Steps p.tables e below (T2.setTop (mkF m 33 #[.val (.ref a1), .val (.ref a2), .val (.int (0 : Int32)), .val (.int (1 : Int32)), .val .null, .unset] [])) _
    refine XS.aloadN X2.here hx rfl (hb hby own_d5_33) rfl rfl ?_
    show Steps p.tables e below (T2.setTop (mkF m 34 #[.val (.ref a1), .val (.ref a2), .val (.int (0 : Int32)), .val (.int (1 : Int32)), .val .null, .unset] [(.ref a2)])) _
    refine XS.iloadN X2.here hx rfl (hb hby own_d5_34) rfl ?_
    show Steps p.tables e below (T2.setTop (mkF m 35 #[.val (.ref a1), .val (.ref a2), .val (.int (0 : Int32)), .val (.int (1 : Int32)), .val .null, .unset] [(.int (0 : Int32)), (.ref a2)])) _
    refine XS.iloadN X2.here hx rfl (hb hby own_d5_35) rfl ?_
    show Steps p.tables e below (T2.setTop (mkF m 36 #[.val (.ref a1), .val (.ref a2), .val (.int (0 : Int32)), .val (.int (1 : Int32)), .val .null, .unset] [(.int (1 : Int32)), (.int (0 : Int32)), (.ref a2)])) _
    refine st3 _ ?_
    show Steps p.tables e below (T3.setTop (mkF m 39 #[.val (.ref a1), .val (.ref a2), .val (.int (0 : Int32)), .val (.int (1 : Int32)), .val .null, .unset] [(.ref r3)])) _
    refine XS.astore X3.here hx rfl (hb hby own_d5_39) rfl rfl (l' := #[.val (.ref a1), .val (.ref a2), .val (.int (0 : Int32)), .val (.int (1 : Int32)), .val .null, .val (.ref r3)]) rfl ?_
    show Steps p.tables e below (T3.setTop (mkF m 41 #[.val (.ref a1), .val (.ref a2), .val (.int (0 : Int32)), .val (.int (1 : Int32)), .val .null, .val (.ref r3)] [])) _
    refine XS.aloadN X3.here hx rfl (hb hby own_d5_41) rfl rfl ?_
    show Steps p.tables e below (T3.setTop (mkF m 42 #[.val (.ref a1), .val (.ref a2), .val (.int (0 : Int32)), .val (.int (1 : Int32)), .val .null, .val (.ref r3)] [(.ref a1)])) _
    refine XS.aload X3.here hx rfl (hb hby own_d5_42) rfl rfl ?_
    show Steps p.tables e below (T3.setTop (mkF m 44 #[.val (.ref a1), .val (.ref a2), .val (.int (0 : Int32)), .val (.int (1 : Int32)), .val .null, .val (.ref r3)] [(.ref r3), (.ref a1)])) _
    refine XS.iloadN X3.here hx rfl (hb hby own_d5_44) rfl ?_
    show Steps p.tables e below (T3.setTop (mkF m 45 #[.val (.ref a1), .val (.ref a2), .val (.int (0 : Int32)), .val (.int (1 : Int32)), .val .null, .val (.ref r3)] [(.int (1 : Int32)), (.ref r3), (.ref a1)])) _
    refine st12 _ ?_
    show Steps p.tables e below (T12.setTop (mkF m 48 #[.val (.ref a1), .val (.ref a2), .val (.int (0 : Int32)), .val (.int (1 : Int32)), .val .null, .val (.ref r3)] [(.int (0 : Int32)), (.ref a1)])) _
    refine st14 _ ?_
    show Steps p.tables e below (T14.setTop (mkF m 51 #[.val (.ref a1), .val (.ref a2), .val (.int (0 : Int32)), .val (.int (1 : Int32)), .val .null, .val (.ref r3)] [])) _
    refine XS.aloadN X14.here hx rfl (hb hby own_d5_51) rfl rfl ?_
    show Steps p.tables e below (T14.setTop (mkF m 52 #[.val (.ref a1), .val (.ref a2), .val (.int (0 : Int32)), .val (.int (1 : Int32)), .val .null, .val (.ref r3)] [(.ref a1)])) _
    refine XS.aload X14.here hx rfl (hb hby own_d5_52) rfl rfl ?_
    show Steps p.tables e below (T14.setTop (mkF m 54 #[.val (.ref a1), .val (.ref a2), .val (.int (0 : Int32)), .val (.int (1 : Int32)), .val .null, .val (.ref r3)] [(.ref r3), (.ref a1)])) _
    refine st24 _ ?_
    show Steps p.tables e below (T24.setTop (mkF m 57 #[.val (.ref a1), .val (.ref a2), .val (.int (0 : Int32)), .val (.int (1 : Int32)), .val .null, .val (.ref r3)] [])) _
    exact X24.returnOut hx Bd.returns (hb hby own_d5_57) hr
  · show own_vA_Q5 Z a1 a2 k_a2 y0 w_COMPACT_STRINGS w_coder_a1 u_value_a1 h0 n0 _ T24.heap _
    rw [e24]
    exact ⟨r3, kr1_3, rfl, N25, K28, sz_r3, f30, f31, f32, f33⟩
-- body 5, variant B
theorem own_vB_ef5 (m : MethodId) (x0 : Addr) (x1 : Addr) : entryFrame m #[(.ref x0), (.ref x1), (.int (0 : Int32)), (.int (2 : Int32)), .null] 6 = mkF m 0 #[.val (.ref x0), .val (.ref x1), .val (.int (0 : Int32)), .val (.int (2 : Int32)), .val .null, .unset] [] := by first | (simp [entryFrame, mkF, argsToLocals, Value.category]; done) | rfl
def own_vB_Q5 (Z : State) (a1 : Addr) (a2 : Addr) (k_a2 : ClassId) (y0 : Int32) (y1 : Int32) (w_COMPACT_STRINGS : Int32) (w_coder_a1 : Int32) (u_value_a1 : Value) (h0 : Heap) (n0 : Nat) (v : Option Value) (h : Heap) (L : List Loc) : Prop := ∃ (x1 : Addr) (kr1 : ClassId), v = none ∧ Fr n0 L ∧ Keep h0 h [a1] ∧ h0.size ≤ x1 ∧ Exa Z h a1 "java/lang/String" ∧ Fld Z h a1 "java/lang/String" "coder" "B" (.int (0 : Int32)) ∧ Fld Z h a1 "java/lang/String" "value" "[B" (.ref x1) ∧ Arv Z h x1 kr1 .byte (2 : Int32) [(.int (nar .byte (y0.toInt8.toInt32))), (.int (nar .byte (y1.toInt8.toInt32)))] (.int (0 : Int32))
set_option maxRecDepth 65536 in
set_option maxHeartbeats 40000000 in
theorem own_vB_rm5 (l : Launch) (Z : State) (a0 : Array Value) (hw : ∀ d ∈ tables_1, d.before a0 Z = true) (ws : List Jvm.Cond) (a1 : Addr) (a2 : Addr) (k_a2 : ClassId) (y0 : Int32) (y1 : Int32) (w_COMPACT_STRINGS : Int32) (w_coder_a1 : Int32) (u_value_a1 : Value) (h0 : Heap) (n0 : Nat) (Z0 : n0 ≤ h0.size) (O0 : Old Z n0 h0) (V_a2 : Arv Z h0 a2 k_a2 .char (2 : Int32) [(.int y0), (.int y1)] (.int (0 : Int32))) (hp0 : ¬ (255 : Int32) < y0) (hp1 : ¬ (255 : Int32) < y1) (hcs : ¬ w_COMPACT_STRINGS = (0 : Int32)) (S_COMPACT_STRINGS : Sta Z Z.heap "java/lang/String" "COMPACT_STRINGS" "Z" (.int w_COMPACT_STRINGS)) (E_a1 : Exa Z h0 a1 "java/lang/String") (F_coder_a1 : Fld Z h0 a1 "java/lang/String" "coder" "B" (.int w_coder_a1)) (g_a1 : n0 ≤ a1) (F_value_a1 : Fld Z h0 a1 "java/lang/String" "value" "[B" u_value_a1) (ne_a2_a1 : a2 ≠ a1) :
    MetFree l (⟨"java/lang/String", "<init>", "([CIILjava/lang/Void;)V"⟩ : MethodName) (head1 (Jvm.Cond.code (⟨"java/lang/String", "<init>", "([CIILjava/lang/Void;)V"⟩ : MethodName) jdk_42_method_149_code 6 none :: ws) ({ frames := 2, cells := 1, slots := 2, locals := 35 } : Room)) (fun a U => a = #[(.ref a1), (.ref a2), (.int (0 : Int32)), (.int (2 : Int32)), .null] ∧ Z.Warmed39 U.vm ∧ U.heap = h0) (fun _ _ _ _ _ => True) (fun _ U o U' => ∃ v L, o = .returned v ∧ own_vB_Q5 Z a1 a2 k_a2 y0 y1 w_COMPACT_STRINGS w_coder_a1 u_value_a1 h0 n0 v U'.heap L ∧ FrameEnd U o U' L ({ frames := 2, cells := 1, slots := 2, locals := 35 } : Room).cells ({ frames := 2, cells := 1, slots := 2, locals := 35 } : Room).slots) := by
  refine MetFree.of_bodySF (plainFor_of_name own_pn79) hisR ?_
  intro p e s m args below meth c s₁ Bd hml0 hP hK
  obtain ⟨rfl, hZ, hh⟩ := hP
  have hx := Bd.exec
  have hby := Bd.bytes
  have hml : c.maxLocals = 6 := hml0
  have hown : s.vm.findClass "java/lang/String" = some m.cls := findClass_of_methodNamed Bd.named
  have hnm := (name_of_methodNamed Bd.named Bd.method).1
  have X0 : Stand p l e ({ frames := 2, cells := 1, slots := 2, locals := 35 } : Room) s m #[(.ref a1), (.ref a2), (.int (0 : Int32)), (.int (2 : Int32)), .null] below meth c s₁ [] 0 0 := Stand.of_body Bd
  have hS0 : s.Since s.vm 0 := (State.WarmedH.refl s).since 0
  have hk0 : 0 ≤ h0.size := Nat.zero_le _
  have hlk := Bd.notSynchronized
  have e0 : s₁.heap = h0 := by rw [← hh, Bd.state]; rfl
  have N0 := Fr.nil n0
  have pre0 : ∀ t, Steps p.tables e below (s₁.setTop (mkF m 0 #[.val (.ref a1), .val (.ref a2), .val (.int (0 : Int32)), .val (.int (2 : Int32)), .val .null, .unset] [])) t → Steps p.tables e below (s₁.setTop (entryFrame m #[(.ref a1), (.ref a2), (.int (0 : Int32)), (.int (2 : Int32)), .null] 6)) t := fun t k => castTop (own_vB_ef5 m a1 a2) k
  obtain ⟨T1, X1, e1, st1⟩ := initO X0 hx hZ hown (hw _ (List.mem_of_getElem? (i := 24) rfl)) (hw _ (List.mem_of_getElem? (i := 25) rfl)) (hw _ (List.mem_of_getElem? (i := 26) rfl)) e0 (g := (mkF m 1 #[.val (.ref a1), .val (.ref a2), .val (.int (0 : Int32)), .val (.int (2 : Int32)), .val .null, .unset] [(.ref a1)])) rfl (by rw [hml]; rfl) rfl (hb hby own_d5_1) (by decide) (W := 0) (by show 2 * 0 + _ ≤ _; exact Nat.le_of_eq rfl) (by decide)
  obtain ⟨T2, X2, e2, st2⟩ := getS2 X1 hx hZ hown (host := "") (Or.inl (hw _ (List.mem_of_getElem? (i := 27) rfl))) Via.refl e1 (S_COMPACT_STRINGS.ext O0.2) (g := (mkF m 27 #[.val (.ref a1), .val (.ref a2), .val (.int (0 : Int32)), .val (.int (2 : Int32)), .val .null, .unset] [])) rfl (hb hby own_d5_27)
  obtain ⟨v3, _, ⟨T3, L3, k3, n3⟩, -, X3, ⟨Lc3, hQ3, l3, y3, z3⟩, st3⟩ := Jvm.LawKit.callS X2 hx (y := (⟨"java/lang/StringUTF16", "compress", "([CII)[B"⟩ : MethodName)) hown (mvT hZ (hw _ (List.mem_of_getElem? (i := 28) rfl))) (mvT hZ (hw _ (List.mem_of_getElem? (i := 29) rfl))) (mvT hZ (hw _ (List.mem_of_getElem? (i := 30) rfl))) (mvT hZ (hw _ (List.mem_of_getElem? (i := 31) rfl))) (by decide) (backOf (W := 0) (own_vB_rm7 l Z a0 hw [] a2 k_a2 y0 y1 h0 n0 Z0 V_a2 hp0 hp1) hZ (hw _ (List.mem_of_getElem? (i := 31) rfl)) (hw _ (List.mem_of_getElem? (i := 30) rfl)) (by decide) (by decide)) (g := (mkF m 36 #[.val (.ref a1), .val (.ref a2), .val (.int (0 : Int32)), .val (.int (2 : Int32)), .val .null, .unset] [(.int (2 : Int32)), (.int (0 : Int32)), (.ref a2)])) rfl (by rw [hml]; rfl) (argsL := [(.ref a2), (.int (0 : Int32)), (.int (2 : Int32))]) (rest := []) (lenOf own_pd77 rfl) rfl (by show 2 * 0 + _ ≤ _; exact Nat.le_of_eq rfl) (hb hby own_d5_36) (fun _ _ => ⟨rfl, e2, (by decide : 0 + 1 ≤ _), (by decide : 0 + 2 ≤ _)⟩)
  dsimp only [Pt.U, Pt.locs, Pt.cells, Pt.slots] at X3 l3 y3 z3 st3 hQ3
  subst l3 y3 z3
  obtain ⟨r3, kr1_3, rfl, N3q, K3, hr3_r, Q3_0⟩ := hQ3
  have ne_a2_r3 : a2 ≠ r3 := Nat.ne_of_lt (Nat.lt_of_lt_of_le V_a2.lt hr3_r)
  have ne_a1_r3 : a1 ≠ r3 := Nat.ne_of_lt (Nat.lt_of_lt_of_le E_a1.lt hr3_r)
  have g_r3 : n0 ≤ r3 := Nat.le_trans Z0 hr3_r
  have sz_r3 : h0.size ≤ r3 := hr3_r
  have O4 := O0.keep K3 all0
  have f5 := V_a2.keep K3 nin0
  have f6 := E_a1.keep K3
  have f7 := F_coder_a1.keep K3 nin0
  have f8 := F_value_a1.keep K3 nin0
  have Z9 := Nat.le_trans Z0 K3.1
  have K10 : Keep h0 T3.heap [a1] := Keep.trans (Keep.refl h0 _) K3 all0
  have N11 := Fr.app N0 N3q
  obtain ⟨v12, _, ⟨T12, L12, k12, n12⟩, -, X12, ⟨Lc12, hQ12, l12, y12, z12⟩, st12⟩ := Jvm.LawKit.callS X3 hx (y := (⟨"java/lang/StringUTF16", "coderFromArrayLen", "([BI)B"⟩ : MethodName)) hown (mvT hZ (hw _ (List.mem_of_getElem? (i := 36) rfl))) (mvT hZ (hw _ (List.mem_of_getElem? (i := 37) rfl))) (mvT hZ (hw _ (List.mem_of_getElem? (i := 30) rfl))) (mvT hZ (hw _ (List.mem_of_getElem? (i := 38) rfl))) (by decide) (backOf (W := 1) (own_vB_rm9 l Z a0 hw [] r3 kr1_3 (nar .byte (y0.toInt8.toInt32)) (nar .byte (y1.toInt8.toInt32)) T3.heap n0 Z9 Q3_0) hZ (hw _ (List.mem_of_getElem? (i := 38) rfl)) (hw _ (List.mem_of_getElem? (i := 30) rfl)) (by decide) (by decide)) (g := (mkF m 45 #[.val (.ref a1), .val (.ref a2), .val (.int (0 : Int32)), .val (.int (2 : Int32)), .val .null, .val (.ref r3)] [(.int (2 : Int32)), (.ref r3), (.ref a1)])) rfl (by rw [hml]; rfl) (argsL := [(.ref r3), (.int (2 : Int32))]) (rest := [(.ref a1)]) (lenOf own_pd78 rfl) rfl (by show 2 * 0 + _ ≤ _; exact Nat.le_of_eq rfl) (hb hby own_d5_45) (fun _ _ => ⟨rfl, rfl, (by decide : 1 + 0 ≤ _), (by decide : 2 + 0 ≤ _)⟩)
  dsimp only [Pt.U, Pt.locs, Pt.cells, Pt.slots] at X12 l12 y12 z12 st12 hQ12
  subst l12 y12 z12
  obtain ⟨hv12, N12q, e12⟩ := hQ12
  have N13 := Fr.app N11 N12q
  rw [show (own_vB_f9) = (0 : Int32) from by first | rfl | decide | simp [own_vB_f9]] at hv12
  subst hv12
  obtain ⟨T14, h14, X14, e14, W14, st14⟩ := putFN X12 hx hZ hown (hw _ (List.mem_of_getElem? (i := 39) rfl)) Via.refl e12 f7 f6 (Or.inr ⟨(hw _ (List.mem_of_getElem? (i := 40) rfl)), rfl, hnm⟩) (hw _ (List.mem_of_getElem? (i := 15) rfl)) (ty := .byte) (v' := .int (nar .byte (0 : Int32))) (by decide) rfl (fits_nar_byte _) (g := (mkF m 48 #[.val (.ref a1), .val (.ref a2), .val (.int (0 : Int32)), .val (.int (2 : Int32)), .val .null, .val (.ref r3)] [(.int (0 : Int32)), (.ref a1)])) rfl rfl (hb hby own_d5_48)
  have N15 := Fr.snoc X14 N13 g_a1
  have O16 := O4.wr W14 g_a1
  have Z17 := Nat.le_trans Z9 (Keep.of_wr W14).1
  have K18 : Keep h0 h14 [a1] := K10.wr W14 (Or.inl (List.mem_of_getElem? (i := 0) rfl))
  have f19 := f5.other W14 ne_a2_a1
  have f20 := f6.wr W14
  have f21 : Fld Z h14 a1 "java/lang/String" "coder" "B" (.int (0 : Int32)) := (by have qq := f7.same W14; rw [show nar .byte (0 : Int32) = (0 : Int32) from by decide] at qq; exact qq)
  have f22 := f8.other W14 (Or.inr (slot_ne (Or.inr (hw _ (List.mem_of_getElem? (i := 42) rfl))) (Or.inr (hw _ (List.mem_of_getElem? (i := 40) rfl))) (by decide) (t := (.array .byte)) (t' := .byte) (by decide) (by decide)))
  have f23 := Q3_0.other W14 (Ne.symm ne_a1_r3)
  obtain ⟨T24, h24, X24, e24, W24, st24⟩ := putF X14 hx hZ hown (host := "") (Or.inl (hw _ (List.mem_of_getElem? (i := 41) rfl))) Via.refl e14 f22 f20 (Or.inr ⟨(hw _ (List.mem_of_getElem? (i := 42) rfl)), rfl, hnm⟩) (hw _ (List.mem_of_getElem? (i := 15) rfl)) (ty := (.array .byte)) (by decide) rfl rfl (g := (mkF m 54 #[.val (.ref a1), .val (.ref a2), .val (.int (0 : Int32)), .val (.int (2 : Int32)), .val .null, .val (.ref r3)] [(.ref r3), (.ref a1)])) rfl rfl (hb hby own_d5_54)
  have N25 := Fr.snoc X24 N15 g_a1
  have O26 := O16.wr W24 g_a1
  have Z27 := Nat.le_trans Z17 (Keep.of_wr W24).1
  have K28 : Keep h0 h24 [a1] := K18.wr W24 (Or.inl (List.mem_of_getElem? (i := 0) rfl))
  have f29 := f19.other W24 ne_a2_a1
  have f30 := f20.wr W24
  have f31 := f21.other W24 (Or.inr (slot_ne (Or.inr (hw _ (List.mem_of_getElem? (i := 40) rfl))) (Or.inr (hw _ (List.mem_of_getElem? (i := 42) rfl))) (by decide) (t := .byte) (t' := (.array .byte)) (by decide) (by decide)))
  have f32 := f22.same W24
  have f33 := f23.other W24 (Ne.symm ne_a1_r3)
  obtain ⟨fs, hr, hrun, hended, hW, hsame⟩ := X24.leave (hlocks := hlk) (v := none) (fun _ => rfl)
  refine ⟨_, _, pre0 _ ?_, hrun, hended, _, _, rfl, ?_, ⟨_, rfl⟩, hW, hsame.mono (by decide) (by decide)⟩
  · show Steps p.tables e below (s₁.setTop (mkF m 0 #[.val (.ref a1), .val (.ref a2), .val (.int (0 : Int32)), .val (.int (2 : Int32)), .val .null, .unset] [])) _
    refine XS.aloadN X0.here hx rfl (hb hby own_d5_0) rfl rfl ?_
    show Steps p.tables e below (s₁.setTop (mkF m 1 #[.val (.ref a1), .val (.ref a2), .val (.int (0 : Int32)), .val (.int (2 : Int32)), .val .null, .unset] [(.ref a1)])) _
    refine st1 _ ?_
    show Steps p.tables e below (T1.setTop (mkF m 4 #[.val (.ref a1), .val (.ref a2), .val (.int (0 : Int32)), .val (.int (2 : Int32)), .val .null, .unset] [])) _
    refine XS.iloadN X1.here hx rfl (hb hby own_d5_4) rfl ?_
    show Steps p.tables e below (T1.setTop (mkF m 5 #[.val (.ref a1), .val (.ref a2), .val (.int (0 : Int32)), .val (.int (2 : Int32)), .val .null, .unset] [(.int (2 : Int32))])) _
    refine XS.ifYes X1.here hx rfl (pc0 := 5) (pc' := 27) rfl (hb hby own_d5_5) rfl ((if0 _ _).trans (feq (by decide : ¬ ((2 : Int32) = (0 : Int32)))).2) (by decide) (by decide) ?_
    show Steps p.tables e below (T1.setTop (mkF m 27 #[.val (.ref a1), .val (.ref a2), .val (.int (0 : Int32)), .val (.int (2 : Int32)), .val .null, .unset] [])) _
    refine st2 _ ?_
    show Steps p.tables e below (T2.setTop (mkF m 30 #[.val (.ref a1), .val (.ref a2), .val (.int (0 : Int32)), .val (.int (2 : Int32)), .val .null, .unset] [(.int w_COMPACT_STRINGS)])) _
    refine XS.ifNo X2.here hx rfl (hb hby own_d5_30) rfl ((if0 _ _).trans (feq hcs).1) ?_
    show Steps p.tables e below (T2.setTop (mkF m 33 #[.val (.ref a1), .val (.ref a2), .val (.int (0 : Int32)), .val (.int (2 : Int32)), .val .null, .unset] [])) _
    refine XS.aloadN X2.here hx rfl (hb hby own_d5_33) rfl rfl ?_
    show Steps p.tables e below (T2.setTop (mkF m 34 #[.val (.ref a1), .val (.ref a2), .val (.int (0 : Int32)), .val (.int (2 : Int32)), .val .null, .unset] [(.ref a2)])) _
    refine XS.iloadN X2.here hx rfl (hb hby own_d5_34) rfl ?_
    show Steps p.tables e below (T2.setTop (mkF m 35 #[.val (.ref a1), .val (.ref a2), .val (.int (0 : Int32)), .val (.int (2 : Int32)), .val .null, .unset] [(.int (0 : Int32)), (.ref a2)])) _
    refine XS.iloadN X2.here hx rfl (hb hby own_d5_35) rfl ?_
    show Steps p.tables e below (T2.setTop (mkF m 36 #[.val (.ref a1), .val (.ref a2), .val (.int (0 : Int32)), .val (.int (2 : Int32)), .val .null, .unset] [(.int (2 : Int32)), (.int (0 : Int32)), (.ref a2)])) _
    refine st3 _ ?_
    show Steps p.tables e below (T3.setTop (mkF m 39 #[.val (.ref a1), .val (.ref a2), .val (.int (0 : Int32)), .val (.int (2 : Int32)), .val .null, .unset] [(.ref r3)])) _
    refine XS.astore X3.here hx rfl (hb hby own_d5_39) rfl rfl (l' := #[.val (.ref a1), .val (.ref a2), .val (.int (0 : Int32)), .val (.int (2 : Int32)), .val .null, .val (.ref r3)]) rfl ?_
    show Steps p.tables e below (T3.setTop (mkF m 41 #[.val (.ref a1), .val (.ref a2), .val (.int (0 : Int32)), .val (.int (2 : Int32)), .val .null, .val (.ref r3)] [])) _
    refine XS.aloadN X3.here hx rfl (hb hby own_d5_41) rfl rfl ?_
    show Steps p.tables e below (T3.setTop (mkF m 42 #[.val (.ref a1), .val (.ref a2), .val (.int (0 : Int32)), .val (.int (2 : Int32)), .val .null, .val (.ref r3)] [(.ref a1)])) _
    refine XS.aload X3.here hx rfl (hb hby own_d5_42) rfl rfl ?_
    show Steps p.tables e below (T3.setTop (mkF m 44 #[.val (.ref a1), .val (.ref a2), .val (.int (0 : Int32)), .val (.int (2 : Int32)), .val .null, .val (.ref r3)] [(.ref r3), (.ref a1)])) _
    refine XS.iloadN X3.here hx rfl (hb hby own_d5_44) rfl ?_
    show Steps p.tables e below (T3.setTop (mkF m 45 #[.val (.ref a1), .val (.ref a2), .val (.int (0 : Int32)), .val (.int (2 : Int32)), .val .null, .val (.ref r3)] [(.int (2 : Int32)), (.ref r3), (.ref a1)])) _
    refine st12 _ ?_
    show Steps p.tables e below (T12.setTop (mkF m 48 #[.val (.ref a1), .val (.ref a2), .val (.int (0 : Int32)), .val (.int (2 : Int32)), .val .null, .val (.ref r3)] [(.int (0 : Int32)), (.ref a1)])) _
    refine st14 _ ?_
    show Steps p.tables e below (T14.setTop (mkF m 51 #[.val (.ref a1), .val (.ref a2), .val (.int (0 : Int32)), .val (.int (2 : Int32)), .val .null, .val (.ref r3)] [])) _
    refine XS.aloadN X14.here hx rfl (hb hby own_d5_51) rfl rfl ?_
    show Steps p.tables e below (T14.setTop (mkF m 52 #[.val (.ref a1), .val (.ref a2), .val (.int (0 : Int32)), .val (.int (2 : Int32)), .val .null, .val (.ref r3)] [(.ref a1)])) _
    refine XS.aload X14.here hx rfl (hb hby own_d5_52) rfl rfl ?_
    show Steps p.tables e below (T14.setTop (mkF m 54 #[.val (.ref a1), .val (.ref a2), .val (.int (0 : Int32)), .val (.int (2 : Int32)), .val .null, .val (.ref r3)] [(.ref r3), (.ref a1)])) _
    refine st24 _ ?_
    show Steps p.tables e below (T24.setTop (mkF m 57 #[.val (.ref a1), .val (.ref a2), .val (.int (0 : Int32)), .val (.int (2 : Int32)), .val .null, .val (.ref r3)] [])) _
    exact X24.returnOut hx Bd.returns (hb hby own_d5_57) hr
  · show own_vB_Q5 Z a1 a2 k_a2 y0 y1 w_COMPACT_STRINGS w_coder_a1 u_value_a1 h0 n0 _ T24.heap _
    rw [e24]
    exact ⟨r3, kr1_3, rfl, N25, K28, sz_r3, f30, f31, f32, f33⟩
-- body 4, variant A
theorem own_d4_0 : decode jdk_42_method_3_code 0 = .ok (.aload_n 0, 1) := by decide +kernel
theorem own_d4_1 : decode jdk_42_method_3_code 1 = .ok (.aload_n 1, 1) := by decide +kernel
theorem own_d4_2 : decode jdk_42_method_3_code 2 = .ok (.iconst 0, 1) := by decide +kernel
theorem own_d4_3 : decode jdk_42_method_3_code 3 = .ok (.aload_n 1, 1) := by decide +kernel
theorem own_d4_4 : decode jdk_42_method_3_code 4 = .ok (.arraylength, 1) := by decide +kernel
theorem own_d4_5 : decode jdk_42_method_3_code 5 = .ok (.aconst_null, 1) := by decide +kernel
theorem own_d4_6 : decode jdk_42_method_3_code 6 = .ok (.invokespecial 27, 3) := by decide +kernel
theorem own_d4_9 : decode jdk_42_method_3_code 9 = .ok (.return_, 1) := by decide +kernel
theorem own_vA_ef4 (m : MethodId) (x0 : Addr) (x1 : Addr) : entryFrame m #[(.ref x0), (.ref x1)] 2 = mkF m 0 #[.val (.ref x0), .val (.ref x1)] [] := by first | (simp [entryFrame, mkF, argsToLocals, Value.category]; done) | rfl
def own_vA_Q4 (Z : State) (a1 : Addr) (a2 : Addr) (k_a2 : ClassId) (y0 : Int32) (w_COMPACT_STRINGS : Int32) (w_coder_a1 : Int32) (u_value_a1 : Value) (h0 : Heap) (n0 : Nat) (v : Option Value) (h : Heap) (L : List Loc) : Prop := ∃ (x1 : Addr) (kr1 : ClassId), v = none ∧ Fr n0 L ∧ Keep h0 h [a1] ∧ h0.size ≤ x1 ∧ Exa Z h a1 "java/lang/String" ∧ Fld Z h a1 "java/lang/String" "coder" "B" (.int (0 : Int32)) ∧ Fld Z h a1 "java/lang/String" "value" "[B" (.ref x1) ∧ Arv Z h x1 kr1 .byte (1 : Int32) [(.int (nar .byte (y0.toInt8.toInt32)))] (.int (0 : Int32))
set_option maxRecDepth 65536 in
set_option maxHeartbeats 40000000 in
theorem own_vA_rm4 (l : Launch) (Z : State) (a0 : Array Value) (hw : ∀ d ∈ tables_1, d.before a0 Z = true) (ws : List Jvm.Cond) (a1 : Addr) (a2 : Addr) (k_a2 : ClassId) (y0 : Int32) (w_COMPACT_STRINGS : Int32) (w_coder_a1 : Int32) (u_value_a1 : Value) (h0 : Heap) (n0 : Nat) (Z0 : n0 ≤ h0.size) (O0 : Old Z n0 h0) (V_a2 : Arv Z h0 a2 k_a2 .char (1 : Int32) [(.int y0)] (.int (0 : Int32))) (hp0 : ¬ (255 : Int32) < y0) (hcs : ¬ w_COMPACT_STRINGS = (0 : Int32)) (S_COMPACT_STRINGS : Sta Z Z.heap "java/lang/String" "COMPACT_STRINGS" "Z" (.int w_COMPACT_STRINGS)) (F_coder_a1 : Fld Z h0 a1 "java/lang/String" "coder" "B" (.int w_coder_a1)) (F_value_a1 : Fld Z h0 a1 "java/lang/String" "value" "[B" u_value_a1) (E_a1 : Exa Z h0 a1 "java/lang/String") (g_a1 : n0 ≤ a1) (ne_a2_a1 : a2 ≠ a1) :
    MetFree l (⟨"java/lang/String", "<init>", "([C)V"⟩ : MethodName) (head1 (Jvm.Cond.code (⟨"java/lang/String", "<init>", "([C)V"⟩ : MethodName) jdk_42_method_3_code 2 none :: ws) ({ frames := 3, cells := 1, slots := 1, locals := 52 } : Room)) (fun a U => a = #[(.ref a1), (.ref a2)] ∧ Z.Warmed39 U.vm ∧ U.heap = h0) (fun _ _ _ _ _ => True) (fun _ U o U' => ∃ v L, o = .returned v ∧ own_vA_Q4 Z a1 a2 k_a2 y0 w_COMPACT_STRINGS w_coder_a1 u_value_a1 h0 n0 v U'.heap L ∧ FrameEnd U o U' L ({ frames := 3, cells := 1, slots := 1, locals := 52 } : Room).cells ({ frames := 3, cells := 1, slots := 1, locals := 52 } : Room).slots) := by
  refine MetFree.of_bodySF (plainFor_of_name own_pn79) hisR ?_
  intro p e s m args below meth c s₁ Bd hml0 hP hK
  obtain ⟨rfl, hZ, hh⟩ := hP
  have hx := Bd.exec
  have hby := Bd.bytes
  have hml : c.maxLocals = 2 := hml0
  have hown : s.vm.findClass "java/lang/String" = some m.cls := findClass_of_methodNamed Bd.named
  have hnm := (name_of_methodNamed Bd.named Bd.method).1
  have X0 : Stand p l e ({ frames := 3, cells := 1, slots := 1, locals := 52 } : Room) s m #[(.ref a1), (.ref a2)] below meth c s₁ [] 0 0 := Stand.of_body Bd
  have hS0 : s.Since s.vm 0 := (State.WarmedH.refl s).since 0
  have hk0 : 0 ≤ h0.size := Nat.zero_le _
  have hlk := Bd.notSynchronized
  have e0 : s₁.heap = h0 := by rw [← hh, Bd.state]; rfl
  have N0 := Fr.nil n0
  have pre0 : ∀ t, Steps p.tables e below (s₁.setTop (mkF m 0 #[.val (.ref a1), .val (.ref a2)] [])) t → Steps p.tables e below (s₁.setTop (entryFrame m #[(.ref a1), (.ref a2)] 2)) t := fun t k => castTop (own_vA_ef4 m a1 a2) k
  obtain ⟨cl1, Ar1, qk1, Sz1, Nn1, Hs1, Gf1⟩ := id V_a2
  obtain ⟨v2, _, ⟨T2, L2, k2, n2⟩, -, X2, ⟨Lc2, hQ2, l2, y2, z2⟩, st2⟩ := X0.specialBack hx (y := (⟨"java/lang/String", "<init>", "([CIILjava/lang/Void;)V"⟩ : MethodName)) rfl hown (mvT hZ (hw _ (List.mem_of_getElem? (i := 20) rfl))) (mvT hZ (hw _ (List.mem_of_getElem? (i := 21) rfl))) (mvT hZ (hw _ (List.mem_of_getElem? (i := 23) rfl))) (by decide) (backOf (W := 0) (own_vA_rm5 l Z a0 hw [] a1 a2 k_a2 y0 w_COMPACT_STRINGS w_coder_a1 u_value_a1 h0 n0 Z0 O0 V_a2 hp0 hcs S_COMPACT_STRINGS E_a1 F_coder_a1 g_a1 F_value_a1 ne_a2_a1) hZ (hw _ (List.mem_of_getElem? (i := 23) rfl)) (hw _ (List.mem_of_getElem? (i := 16) rfl)) (by decide) (by decide)) (g := (mkF m 6 #[.val (.ref a1), .val (.ref a2)] [.null, (.int (1 : Int32)), (.int (0 : Int32)), (.ref a2), (.ref a1)])) rfl (by rw [hml]; rfl) (Steps.refl _) (a := a1) (argsL := [(.ref a2), (.int (0 : Int32)), (.int (1 : Int32)), .null]) (rest := []) (lenOf own_pd100 rfl) rfl (by show 2 * 0 + _ ≤ _; exact Nat.le_of_eq rfl) (hb hby own_d4_6) (fun _ _ => ⟨rfl, e0, (by decide : 0 + 1 ≤ _), (by decide : 0 + 1 ≤ _)⟩)
  dsimp only [Pt.U, Pt.locs, Pt.cells, Pt.slots] at X2 l2 y2 z2 st2 hQ2
  subst l2 y2 z2
  obtain ⟨x1_2, kr1_2, rfl, N2q, K2, hr2_x1, Q2_0, Q2_1, Q2_2, Q2_3⟩ := hQ2
  have ne_a2_x1_2 : a2 ≠ x1_2 := Nat.ne_of_lt (Nat.lt_of_lt_of_le V_a2.lt hr2_x1)
  have ne_a1_x1_2 : a1 ≠ x1_2 := Nat.ne_of_lt (Nat.lt_of_lt_of_le F_coder_a1.lt hr2_x1)
  have g_x1_2 : n0 ≤ x1_2 := Nat.le_trans Z0 hr2_x1
  have sz_x1_2 : h0.size ≤ x1_2 := hr2_x1
  have O3 := O0.keep K2 (allS g_a1 all0)
  have f4 := V_a2.keep K2 (ninS ne_a2_a1 nin0)
  have f7 := E_a1.keep K2
  have Z8 := Nat.le_trans Z0 K2.1
  have K9 : Keep h0 T2.heap [a1] := Keep.trans (Keep.refl h0 _) K2 (allS (Or.inl (List.mem_of_getElem? (i := 0) rfl)) all0)
  have N10 := Fr.app N0 N2q
  obtain ⟨fs, hr, hrun, hended, hW, hsame⟩ := X2.leave (hlocks := hlk) (v := none) (fun _ => rfl)
  refine ⟨_, _, pre0 _ ?_, hrun, hended, _, _, rfl, ?_, ⟨_, rfl⟩, hW, hsame.mono (by decide) (by decide)⟩
  · show Steps p.tables e below (s₁.setTop (mkF m 0 #[.val (.ref a1), .val (.ref a2)] [])) _
    refine XS.aloadN X0.here hx rfl (hb hby own_d4_0) rfl rfl ?_
    show Steps p.tables e below (s₁.setTop (mkF m 1 #[.val (.ref a1), .val (.ref a2)] [(.ref a1)])) _
    refine XS.aloadN X0.here hx rfl (hb hby own_d4_1) rfl rfl ?_
    show Steps p.tables e below (s₁.setTop (mkF m 2 #[.val (.ref a1), .val (.ref a2)] [(.ref a2), (.ref a1)])) _
    refine XS.iconst X0.here hx rfl (hb hby own_d4_2) ?_
    show Steps p.tables e below (s₁.setTop (mkF m 3 #[.val (.ref a1), .val (.ref a2)] [(.int (0 : Int32)), (.ref a2), (.ref a1)])) _
    refine XS.aloadN X0.here hx rfl (hb hby own_d4_3) rfl rfl ?_
    show Steps p.tables e below (s₁.setTop (mkF m 4 #[.val (.ref a1), .val (.ref a2)] [(.ref a2), (.int (0 : Int32)), (.ref a2), (.ref a1)])) _
    refine X0.arraylength hx (by rw [e0]; exact Ar1.1) (State.isArrayOf_alike hZ.alike Ar1.2.1) (g := (mkF m 4 #[.val (.ref a1), .val (.ref a2)] [(.ref a2), (.int (0 : Int32)), (.ref a2), (.ref a1)])) rfl rfl (hb hby own_d4_4) _ ?_
    rw [len_of Sz1 Nn1]
    show Steps p.tables e below (s₁.setTop (mkF m 5 #[.val (.ref a1), .val (.ref a2)] [(.int (1 : Int32)), (.int (0 : Int32)), (.ref a2), (.ref a1)])) _
    refine XS.aconstNull X0.here hx rfl (hb hby own_d4_5) ?_
    show Steps p.tables e below (s₁.setTop (mkF m 6 #[.val (.ref a1), .val (.ref a2)] [.null, (.int (1 : Int32)), (.int (0 : Int32)), (.ref a2), (.ref a1)])) _
    refine st2.trans ?_
    show Steps p.tables e below (T2.setTop (mkF m 9 #[.val (.ref a1), .val (.ref a2)] [])) _
    exact X2.returnOut hx Bd.returns (hb hby own_d4_9) hr
  · show own_vA_Q4 Z a1 a2 k_a2 y0 w_COMPACT_STRINGS w_coder_a1 u_value_a1 h0 n0 _ T2.heap _
    exact ⟨x1_2, kr1_2, rfl, N10, K9, sz_x1_2, Q2_0, Q2_1, Q2_2, Q2_3⟩
-- body 4, variant B
theorem own_vB_ef4 (m : MethodId) (x0 : Addr) (x1 : Addr) : entryFrame m #[(.ref x0), (.ref x1)] 2 = mkF m 0 #[.val (.ref x0), .val (.ref x1)] [] := by first | (simp [entryFrame, mkF, argsToLocals, Value.category]; done) | rfl
def own_vB_Q4 (Z : State) (a1 : Addr) (a2 : Addr) (k_a2 : ClassId) (y0 : Int32) (y1 : Int32) (w_COMPACT_STRINGS : Int32) (w_coder_a1 : Int32) (u_value_a1 : Value) (h0 : Heap) (n0 : Nat) (v : Option Value) (h : Heap) (L : List Loc) : Prop := ∃ (x1 : Addr) (kr1 : ClassId), v = none ∧ Fr n0 L ∧ Keep h0 h [a1] ∧ h0.size ≤ x1 ∧ Exa Z h a1 "java/lang/String" ∧ Fld Z h a1 "java/lang/String" "coder" "B" (.int (0 : Int32)) ∧ Fld Z h a1 "java/lang/String" "value" "[B" (.ref x1) ∧ Arv Z h x1 kr1 .byte (2 : Int32) [(.int (nar .byte (y0.toInt8.toInt32))), (.int (nar .byte (y1.toInt8.toInt32)))] (.int (0 : Int32))
set_option maxRecDepth 65536 in
set_option maxHeartbeats 40000000 in
theorem own_vB_rm4 (l : Launch) (Z : State) (a0 : Array Value) (hw : ∀ d ∈ tables_1, d.before a0 Z = true) (ws : List Jvm.Cond) (a1 : Addr) (a2 : Addr) (k_a2 : ClassId) (y0 : Int32) (y1 : Int32) (w_COMPACT_STRINGS : Int32) (w_coder_a1 : Int32) (u_value_a1 : Value) (h0 : Heap) (n0 : Nat) (Z0 : n0 ≤ h0.size) (O0 : Old Z n0 h0) (V_a2 : Arv Z h0 a2 k_a2 .char (2 : Int32) [(.int y0), (.int y1)] (.int (0 : Int32))) (hp0 : ¬ (255 : Int32) < y0) (hp1 : ¬ (255 : Int32) < y1) (hcs : ¬ w_COMPACT_STRINGS = (0 : Int32)) (S_COMPACT_STRINGS : Sta Z Z.heap "java/lang/String" "COMPACT_STRINGS" "Z" (.int w_COMPACT_STRINGS)) (F_coder_a1 : Fld Z h0 a1 "java/lang/String" "coder" "B" (.int w_coder_a1)) (F_value_a1 : Fld Z h0 a1 "java/lang/String" "value" "[B" u_value_a1) (E_a1 : Exa Z h0 a1 "java/lang/String") (g_a1 : n0 ≤ a1) (ne_a2_a1 : a2 ≠ a1) :
    MetFree l (⟨"java/lang/String", "<init>", "([C)V"⟩ : MethodName) (head1 (Jvm.Cond.code (⟨"java/lang/String", "<init>", "([C)V"⟩ : MethodName) jdk_42_method_3_code 2 none :: ws) ({ frames := 3, cells := 1, slots := 2, locals := 52 } : Room)) (fun a U => a = #[(.ref a1), (.ref a2)] ∧ Z.Warmed39 U.vm ∧ U.heap = h0) (fun _ _ _ _ _ => True) (fun _ U o U' => ∃ v L, o = .returned v ∧ own_vB_Q4 Z a1 a2 k_a2 y0 y1 w_COMPACT_STRINGS w_coder_a1 u_value_a1 h0 n0 v U'.heap L ∧ FrameEnd U o U' L ({ frames := 3, cells := 1, slots := 2, locals := 52 } : Room).cells ({ frames := 3, cells := 1, slots := 2, locals := 52 } : Room).slots) := by
  refine MetFree.of_bodySF (plainFor_of_name own_pn79) hisR ?_
  intro p e s m args below meth c s₁ Bd hml0 hP hK
  obtain ⟨rfl, hZ, hh⟩ := hP
  have hx := Bd.exec
  have hby := Bd.bytes
  have hml : c.maxLocals = 2 := hml0
  have hown : s.vm.findClass "java/lang/String" = some m.cls := findClass_of_methodNamed Bd.named
  have hnm := (name_of_methodNamed Bd.named Bd.method).1
  have X0 : Stand p l e ({ frames := 3, cells := 1, slots := 2, locals := 52 } : Room) s m #[(.ref a1), (.ref a2)] below meth c s₁ [] 0 0 := Stand.of_body Bd
  have hS0 : s.Since s.vm 0 := (State.WarmedH.refl s).since 0
  have hk0 : 0 ≤ h0.size := Nat.zero_le _
  have hlk := Bd.notSynchronized
  have e0 : s₁.heap = h0 := by rw [← hh, Bd.state]; rfl
  have N0 := Fr.nil n0
  have pre0 : ∀ t, Steps p.tables e below (s₁.setTop (mkF m 0 #[.val (.ref a1), .val (.ref a2)] [])) t → Steps p.tables e below (s₁.setTop (entryFrame m #[(.ref a1), (.ref a2)] 2)) t := fun t k => castTop (own_vB_ef4 m a1 a2) k
  obtain ⟨cl1, Ar1, qk1, Sz1, Nn1, Hs1, Gf1⟩ := id V_a2
  obtain ⟨v2, _, ⟨T2, L2, k2, n2⟩, -, X2, ⟨Lc2, hQ2, l2, y2, z2⟩, st2⟩ := X0.specialBack hx (y := (⟨"java/lang/String", "<init>", "([CIILjava/lang/Void;)V"⟩ : MethodName)) rfl hown (mvT hZ (hw _ (List.mem_of_getElem? (i := 20) rfl))) (mvT hZ (hw _ (List.mem_of_getElem? (i := 21) rfl))) (mvT hZ (hw _ (List.mem_of_getElem? (i := 23) rfl))) (by decide) (backOf (W := 0) (own_vB_rm5 l Z a0 hw [] a1 a2 k_a2 y0 y1 w_COMPACT_STRINGS w_coder_a1 u_value_a1 h0 n0 Z0 O0 V_a2 hp0 hp1 hcs S_COMPACT_STRINGS E_a1 F_coder_a1 g_a1 F_value_a1 ne_a2_a1) hZ (hw _ (List.mem_of_getElem? (i := 23) rfl)) (hw _ (List.mem_of_getElem? (i := 16) rfl)) (by decide) (by decide)) (g := (mkF m 6 #[.val (.ref a1), .val (.ref a2)] [.null, (.int (2 : Int32)), (.int (0 : Int32)), (.ref a2), (.ref a1)])) rfl (by rw [hml]; rfl) (Steps.refl _) (a := a1) (argsL := [(.ref a2), (.int (0 : Int32)), (.int (2 : Int32)), .null]) (rest := []) (lenOf own_pd100 rfl) rfl (by show 2 * 0 + _ ≤ _; exact Nat.le_of_eq rfl) (hb hby own_d4_6) (fun _ _ => ⟨rfl, e0, (by decide : 0 + 1 ≤ _), (by decide : 0 + 2 ≤ _)⟩)
  dsimp only [Pt.U, Pt.locs, Pt.cells, Pt.slots] at X2 l2 y2 z2 st2 hQ2
  subst l2 y2 z2
  obtain ⟨x1_2, kr1_2, rfl, N2q, K2, hr2_x1, Q2_0, Q2_1, Q2_2, Q2_3⟩ := hQ2
  have ne_a2_x1_2 : a2 ≠ x1_2 := Nat.ne_of_lt (Nat.lt_of_lt_of_le V_a2.lt hr2_x1)
  have ne_a1_x1_2 : a1 ≠ x1_2 := Nat.ne_of_lt (Nat.lt_of_lt_of_le F_coder_a1.lt hr2_x1)
  have g_x1_2 : n0 ≤ x1_2 := Nat.le_trans Z0 hr2_x1
  have sz_x1_2 : h0.size ≤ x1_2 := hr2_x1
  have O3 := O0.keep K2 (allS g_a1 all0)
  have f4 := V_a2.keep K2 (ninS ne_a2_a1 nin0)
  have f7 := E_a1.keep K2
  have Z8 := Nat.le_trans Z0 K2.1
  have K9 : Keep h0 T2.heap [a1] := Keep.trans (Keep.refl h0 _) K2 (allS (Or.inl (List.mem_of_getElem? (i := 0) rfl)) all0)
  have N10 := Fr.app N0 N2q
  obtain ⟨fs, hr, hrun, hended, hW, hsame⟩ := X2.leave (hlocks := hlk) (v := none) (fun _ => rfl)
  refine ⟨_, _, pre0 _ ?_, hrun, hended, _, _, rfl, ?_, ⟨_, rfl⟩, hW, hsame.mono (by decide) (by decide)⟩
  · show Steps p.tables e below (s₁.setTop (mkF m 0 #[.val (.ref a1), .val (.ref a2)] [])) _
    refine XS.aloadN X0.here hx rfl (hb hby own_d4_0) rfl rfl ?_
    show Steps p.tables e below (s₁.setTop (mkF m 1 #[.val (.ref a1), .val (.ref a2)] [(.ref a1)])) _
    refine XS.aloadN X0.here hx rfl (hb hby own_d4_1) rfl rfl ?_
    show Steps p.tables e below (s₁.setTop (mkF m 2 #[.val (.ref a1), .val (.ref a2)] [(.ref a2), (.ref a1)])) _
    refine XS.iconst X0.here hx rfl (hb hby own_d4_2) ?_
    show Steps p.tables e below (s₁.setTop (mkF m 3 #[.val (.ref a1), .val (.ref a2)] [(.int (0 : Int32)), (.ref a2), (.ref a1)])) _
    refine XS.aloadN X0.here hx rfl (hb hby own_d4_3) rfl rfl ?_
    show Steps p.tables e below (s₁.setTop (mkF m 4 #[.val (.ref a1), .val (.ref a2)] [(.ref a2), (.int (0 : Int32)), (.ref a2), (.ref a1)])) _
    refine X0.arraylength hx (by rw [e0]; exact Ar1.1) (State.isArrayOf_alike hZ.alike Ar1.2.1) (g := (mkF m 4 #[.val (.ref a1), .val (.ref a2)] [(.ref a2), (.int (0 : Int32)), (.ref a2), (.ref a1)])) rfl rfl (hb hby own_d4_4) _ ?_
    rw [len_of Sz1 Nn1]
    show Steps p.tables e below (s₁.setTop (mkF m 5 #[.val (.ref a1), .val (.ref a2)] [(.int (2 : Int32)), (.int (0 : Int32)), (.ref a2), (.ref a1)])) _
    refine XS.aconstNull X0.here hx rfl (hb hby own_d4_5) ?_
    show Steps p.tables e below (s₁.setTop (mkF m 6 #[.val (.ref a1), .val (.ref a2)] [.null, (.int (2 : Int32)), (.int (0 : Int32)), (.ref a2), (.ref a1)])) _
    refine st2.trans ?_
    show Steps p.tables e below (T2.setTop (mkF m 9 #[.val (.ref a1), .val (.ref a2)] [])) _
    exact X2.returnOut hx Bd.returns (hb hby own_d4_9) hr
  · show own_vB_Q4 Z a1 a2 k_a2 y0 y1 w_COMPACT_STRINGS w_coder_a1 u_value_a1 h0 n0 _ T2.heap _
    exact ⟨x1_2, kr1_2, rfl, N10, K9, sz_x1_2, Q2_0, Q2_1, Q2_2, Q2_3⟩
def own_N (p : Int32) : Int32 := if own_f2 p = 1 then 1 else 2
def own_bt (p : Int32) : Int32 := nar .byte ((nar .char (own_f3 p)).toInt8.toInt32)
def own_bs (p : Int32) : List Value := if own_f2 p = 1 then [.int (own_bt p)] else [.int (own_bt p), .int (own_bt (p.toUInt32 >>> ((8 : Int32) &&& 31).toUInt32).toInt32)]
theorem own_Nt {p : Int32} (h : own_f2 p = 1) : own_N p = 1 := if_pos h
theorem own_Nf {p : Int32} (h : ¬ own_f2 p = 1) : own_N p = 2 := if_neg h
theorem own_bst {p : Int32} (h : own_f2 p = 1) : own_bs p = [.int (own_bt p)] := if_pos h
theorem own_bsf {p : Int32} (h : ¬ own_f2 p = 1) : own_bs p = [.int (own_bt p), .int (own_bt (p.toUInt32 >>> ((8 : Int32) &&& 31).toUInt32).toInt32)] := if_neg h
theorem own_cast {Z : State} {h : Heap} {x : Addr} {k : ClassId} {N N' : Int32} {bs bs' : List Value} {dv : Value} (e1 : N = N') (e2 : bs = bs') (V : Arv Z h x k .byte N' bs' dv) : Arv Z h x k .byte N bs dv := by subst e1; subst e2; exact V
def own_g (c : Int32) : Int32 := if c = (9 : Int32) then (nar .char ((c + (64 : Int32)).toUInt32.toUInt16.toUInt32.toInt32)) else if c = (10 : Int32) then (nar .char ((c + (64 : Int32)).toUInt32.toUInt16.toUInt32.toInt32)) else if c = (32 : Int32) then (nar .char ((c + (64 : Int32)).toUInt32.toUInt16.toUInt32.toInt32)) else (nar .char (c.toUInt32.toUInt16.toUInt32.toInt32))
theorem own_and (p m : Int32) (n : Nat) (hm : m.toBitVec.toNat < n) : ∃ k : Fin n, p &&& m = Int32.ofNat k.val := by
  have h : (p &&& m).toBitVec.toNat < n := by
    rw [Int32.toBitVec_and, BitVec.toNat_and]
    exact Nat.lt_of_le_of_lt Nat.and_le_right hm
  refine ⟨⟨_, h⟩, Int32.toBitVec_inj.mp ?_⟩
  show _ = BitVec.ofNat 32 _
  simp
theorem own_f3g (p : Int32) : ∃ k : Fin 256, own_f3 p = own_g (Int32.ofNat k.val) := by
  obtain ⟨k, h⟩ := own_and p 255 256 (by decide)
  exact ⟨k, by rw [← h]; rfl⟩
theorem own_f2ca : ∀ k : Fin 2, (1 : Int32) + Int32.ofNat k.val = 1 ∨ (1 : Int32) + Int32.ofNat k.val = 2 := by decide
theorem own_f2c (p : Int32) : own_f2 p = 1 ∨ own_f2 p = 2 := by
  obtain ⟨k, h⟩ := own_and ((p.toUInt32 >>> ((16 : Int32) &&& 31).toUInt32).toInt32) 1 2 (by decide)
  unfold own_f2
  rw [h]
  exact own_f2ca k
theorem own_c255a : ∀ k : Fin 256, ¬ (255 : Int32) < nar .char (own_g (Int32.ofNat k.val)) := by decide +kernel
theorem own_c255 (p : Int32) : ¬ (255 : Int32) < nar .char (own_f3 p) := by
  obtain ⟨k, h⟩ := own_f3g p
  rw [h]; exact own_c255a k
-- body 1
theorem own_d1_0 : decode method_5_code 0 = .ok (.iload_n 0, 1) := by decide +kernel
theorem own_d1_1 : decode method_5_code 1 = .ok (.invokestatic 26, 3) := by decide +kernel
theorem own_d1_4 : decode method_5_code 4 = .ok (.iconst 1, 1) := by decide +kernel
theorem own_d1_5 : decode method_5_code 5 = .ok (.if_icmp .ne 23, 3) := by decide +kernel
theorem own_d1_8 : decode method_5_code 8 = .ok (.iconst 1, 1) := by decide +kernel
theorem own_d1_9 : decode method_5_code 9 = .ok (.newarray .char, 2) := by decide +kernel
theorem own_d1_11 : decode method_5_code 11 = .ok (.astore_n 1, 1) := by decide +kernel
theorem own_d1_12 : decode method_5_code 12 = .ok (.aload_n 1, 1) := by decide +kernel
theorem own_d1_13 : decode method_5_code 13 = .ok (.iconst 0, 1) := by decide +kernel
theorem own_d1_14 : decode method_5_code 14 = .ok (.iload_n 0, 1) := by decide +kernel
theorem own_d1_15 : decode method_5_code 15 = .ok (.invokestatic 30, 3) := by decide +kernel
theorem own_d1_18 : decode method_5_code 18 = .ok (.castore, 1) := by decide +kernel
theorem own_d1_19 : decode method_5_code 19 = .ok (.new 34, 3) := by decide +kernel
theorem own_d1_22 : decode method_5_code 22 = .ok (.dup, 1) := by decide +kernel
theorem own_d1_23 : decode method_5_code 23 = .ok (.aload_n 1, 1) := by decide +kernel
theorem own_d1_24 : decode method_5_code 24 = .ok (.invokespecial 36, 3) := by decide +kernel
theorem own_d1_27 : decode method_5_code 27 = .ok (.areturn, 1) := by decide +kernel
theorem own_d1_28 : decode method_5_code 28 = .ok (.iconst 2, 1) := by decide +kernel
theorem own_d1_29 : decode method_5_code 29 = .ok (.newarray .char, 2) := by decide +kernel
theorem own_d1_31 : decode method_5_code 31 = .ok (.astore_n 1, 1) := by decide +kernel
theorem own_d1_32 : decode method_5_code 32 = .ok (.aload_n 1, 1) := by decide +kernel
theorem own_d1_33 : decode method_5_code 33 = .ok (.iconst 0, 1) := by decide +kernel
theorem own_d1_34 : decode method_5_code 34 = .ok (.iload_n 0, 1) := by decide +kernel
theorem own_d1_35 : decode method_5_code 35 = .ok (.invokestatic 30, 3) := by decide +kernel
theorem own_d1_38 : decode method_5_code 38 = .ok (.castore, 1) := by decide +kernel
theorem own_d1_39 : decode method_5_code 39 = .ok (.aload_n 1, 1) := by decide +kernel
theorem own_d1_40 : decode method_5_code 40 = .ok (.iconst 1, 1) := by decide +kernel
theorem own_d1_41 : decode method_5_code 41 = .ok (.iload_n 0, 1) := by decide +kernel
theorem own_d1_42 : decode method_5_code 42 = .ok (.bipush 8, 2) := by decide +kernel
theorem own_d1_44 : decode method_5_code 44 = .ok (.iushr, 1) := by decide +kernel
theorem own_d1_45 : decode method_5_code 45 = .ok (.invokestatic 30, 3) := by decide +kernel
theorem own_d1_48 : decode method_5_code 48 = .ok (.castore, 1) := by decide +kernel
theorem own_d1_49 : decode method_5_code 49 = .ok (.new 34, 3) := by decide +kernel
theorem own_d1_52 : decode method_5_code 52 = .ok (.dup, 1) := by decide +kernel
theorem own_d1_53 : decode method_5_code 53 = .ok (.aload_n 1, 1) := by decide +kernel
theorem own_d1_54 : decode method_5_code 54 = .ok (.invokespecial 36, 3) := by decide +kernel
theorem own_d1_57 : decode method_5_code 57 = .ok (.areturn, 1) := by decide +kernel
theorem own_ef1 (m : MethodId) (x0 : Int32) : entryFrame m #[(.int x0)] 2 = mkF m 0 #[.val (.int x0), .unset] [] := by first | (simp [entryFrame, mkF, argsToLocals, Value.category]; done) | rfl
def own_Q1 (Z : State) (p1 : Int32) (w_COMPACT_STRINGS : Int32) (h0 : Heap) (n0 : Nat) (v : Option Value) (h : Heap) (L : List Loc) : Prop := ∃ (r : Addr) (x1 : Addr) (kr1 : ClassId), v = some (.ref r) ∧ Fr n0 L ∧ Keep h0 h [] ∧ h0.size ≤ r ∧ h0.size ≤ x1 ∧ Exa Z h r "java/lang/String" ∧ Fld Z h r "java/lang/String" "coder" "B" (.int (0 : Int32)) ∧ Fld Z h r "java/lang/String" "value" "[B" (.ref x1) ∧ Arv Z h x1 kr1 .byte (own_N p1) (own_bs p1) (.int (0 : Int32))
set_option maxRecDepth 65536 in
set_option maxHeartbeats 40000000 in
theorem own_rm1 (l : Launch) (Z : State) (a0 : Array Value) (hw : ∀ d ∈ tables_1, d.before a0 Z = true) (ws : List Jvm.Cond) (p1 : Int32) (w_COMPACT_STRINGS : Int32) (h0 : Heap) (n0 : Nat) (Z0 : n0 ≤ h0.size) (O0 : Old Z n0 h0) (hcs : ¬ w_COMPACT_STRINGS = (0 : Int32)) (S_COMPACT_STRINGS : Sta Z Z.heap "java/lang/String" "COMPACT_STRINGS" "Z" (.int w_COMPACT_STRINGS)) :
    MetFree l (⟨"com/example/nanshe/nanshe/engine/RequestEqualsPinLaw", "name", "(I)Ljava/lang/String;"⟩ : MethodName) (head1 (Jvm.Cond.code (⟨"com/example/nanshe/nanshe/engine/RequestEqualsPinLaw", "name", "(I)Ljava/lang/String;"⟩ : MethodName) method_5_code 2 (some (.object "java/lang/String")) :: ws) ({ frames := 4, cells := 3, slots := 8, locals := 66 } : Room)) (fun a U => a = #[(.int p1)] ∧ Z.Warmed39 U.vm ∧ U.heap = h0) (fun _ _ _ _ _ => True) (fun _ U o U' => ∃ v L, o = .returned v ∧ own_Q1 Z p1 w_COMPACT_STRINGS h0 n0 v U'.heap L ∧ FrameEnd U o U' L ({ frames := 4, cells := 3, slots := 8, locals := 66 } : Room).cells ({ frames := 4, cells := 3, slots := 8, locals := 66 } : Room).slots) := by
  refine MetFree.of_bodySF (plainFor_of_name own_pn0) hisR ?_
  intro p e s m args below meth c s₁ Bd hml0 hP hK
  obtain ⟨rfl, hZ, hh⟩ := hP
  have hx := Bd.exec
  have hby := Bd.bytes
  have hml : c.maxLocals = 2 := hml0
  have hown : s.vm.findClass "com/example/nanshe/nanshe/engine/RequestEqualsPinLaw" = some m.cls := findClass_of_methodNamed Bd.named
  have hnm := (name_of_methodNamed Bd.named Bd.method).1
  have X0 : Stand p l e ({ frames := 4, cells := 3, slots := 8, locals := 66 } : Room) s m #[(.int p1)] below meth c s₁ [] 0 0 := Stand.of_body Bd
  have hS0 : s.Since s.vm 0 := (State.WarmedH.refl s).since 0
  have hk0 : 0 ≤ h0.size := Nat.zero_le _
  have hlk := Bd.notSynchronized
  have e0 : s₁.heap = h0 := by rw [← hh, Bd.state]; rfl
  have N0 := Fr.nil n0
  have pre0 : ∀ t, Steps p.tables e below (s₁.setTop (mkF m 0 #[.val (.int p1), .unset] [])) t → Steps p.tables e below (s₁.setTop (entryFrame m #[(.int p1)] 2)) t := fun t k => castTop (own_ef1 m p1) k
  obtain ⟨v1, _, ⟨T1, L1, k1, n1⟩, -, X1, ⟨Lc1, hQ1, l1, y1, z1⟩, st1⟩ := Jvm.LawKit.callS X0 hx (y := (⟨"com/example/nanshe/nanshe/engine/RequestEqualsPinLaw", "len", "(I)I"⟩ : MethodName)) hown (mvT hZ (hw _ (List.mem_of_getElem? (i := 7) rfl))) (mvT hZ (hw _ (List.mem_of_getElem? (i := 8) rfl))) (mvT hZ (hw _ (List.mem_of_getElem? (i := 5) rfl))) (mvT hZ (hw _ (List.mem_of_getElem? (i := 9) rfl))) (by decide) (backOf (W := 0) (own_rm2 l Z a0 hw [] p1 h0 n0 Z0) hZ (hw _ (List.mem_of_getElem? (i := 9) rfl)) (hw _ (List.mem_of_getElem? (i := 5) rfl)) (by decide) (by decide)) (g := (mkF m 1 #[.val (.int p1), .unset] [(.int p1)])) rfl (by rw [hml]; rfl) (argsL := [(.int p1)]) (rest := []) (lenOf own_pd109 rfl) rfl (by show 2 * 0 + _ ≤ _; exact Nat.le_of_eq rfl) (hb hby own_d1_1) (fun _ _ => ⟨rfl, e0, (by decide : 0 + 0 ≤ _), (by decide : 0 + 0 ≤ _)⟩)
  dsimp only [Pt.U, Pt.locs, Pt.cells, Pt.slots] at X1 l1 y1 z1 st1 hQ1
  subst l1 y1 z1
  obtain ⟨rfl, N1q, e1⟩ := hQ1
  have N2 := Fr.app N0 N1q
  have k3 : ∀ t, Steps p.tables e below (T1.setTop (mkF m 5 #[.val (.int p1), .unset] [(.int (1 : Int32)), (.int (own_f2 p1))])) t → Steps p.tables e below (s₁.setTop (entryFrame m #[(.int p1)] 2)) t := by
    intro t kt
    refine pre0 t ?_
    show Steps p.tables e below (s₁.setTop (mkF m 0 #[.val (.int p1), .unset] [])) _
    refine XS.iloadN X0.here hx rfl (hb hby own_d1_0) rfl ?_
    show Steps p.tables e below (s₁.setTop (mkF m 1 #[.val (.int p1), .unset] [(.int p1)])) _
    refine st1 _ ?_
    show Steps p.tables e below (T1.setTop (mkF m 4 #[.val (.int p1), .unset] [(.int (own_f2 p1))])) _
    refine XS.iconst X1.here hx rfl (hb hby own_d1_4) ?_
    exact kt
  by_cases hc1 : (own_f2 p1) = (1 : Int32)
  ·
    obtain ⟨T4, h4, k4, X4, e4, E4, A4, st4⟩ := newP X1 hx hZ (hw _ (List.mem_of_getElem? (i := 10) rfl)) e1 (g := (mkF m 9 #[.val (.int p1), .unset] [(.int (1 : Int32))])) rfl (hb hby own_d1_9) rfl (by decide) (cap := 1) (by decide) (by decide) (by decide) (by decide)
    obtain ⟨b4, g4⟩ : ∃ z, z = h0.size := ⟨_, rfl⟩
    rw [← g4] at A4 st4
    have g_b4 : n0 ≤ b4 := Nat.le_trans Z0 (Nat.le_of_eq g4.symm)
    have sz_b4 : h0.size ≤ b4 := Nat.le_of_eq g4.symm
    have O5 := O0.ext E4
    have Z6 := Nat.le_trans Z0 E4.1
    have K7 : Keep h0 h4 [] := (Keep.refl h0 _).ext E4
    have V_b4 : Arv Z h4 b4 k4 .char (1 : Int32) [(.int (0 : Int32))] (.int (0 : Int32)) := (Arv.new A4 (by decide)).pad (pad_rep [] (.int (0 : Int32)) 1)
    obtain ⟨v8, _, ⟨T8, L8, k8, n8⟩, -, X8, ⟨Lc8, hQ8, l8, y8, z8⟩, st8⟩ := Jvm.LawKit.callS X4 hx (y := (⟨"com/example/nanshe/nanshe/engine/RequestEqualsPinLaw", "safe", "(I)C"⟩ : MethodName)) hown (mvT hZ (hw _ (List.mem_of_getElem? (i := 11) rfl))) (mvT hZ (hw _ (List.mem_of_getElem? (i := 12) rfl))) (mvT hZ (hw _ (List.mem_of_getElem? (i := 5) rfl))) (mvT hZ (hw _ (List.mem_of_getElem? (i := 13) rfl))) (by decide) (backOf (W := 2) (own_rm3 l Z a0 hw [] p1 h4 n0 Z6) hZ (hw _ (List.mem_of_getElem? (i := 13) rfl)) (hw _ (List.mem_of_getElem? (i := 5) rfl)) (by decide) (by decide)) (g := (mkF m 15 #[.val (.int p1), .val (.ref b4)] [(.int p1), (.int (0 : Int32)), (.ref b4)])) rfl (by rw [hml]; rfl) (argsL := [(.int p1)]) (rest := [(.int (0 : Int32)), (.ref b4)]) (lenOf own_pd110 rfl) rfl (by show 2 * 0 + _ ≤ _; exact Nat.le_of_eq rfl) (hb hby own_d1_15) (fun _ _ => ⟨rfl, e4, (by decide : 1 + 0 ≤ _), (by decide : 1 + 0 ≤ _)⟩)
    dsimp only [Pt.U, Pt.locs, Pt.cells, Pt.slots] at X8 l8 y8 z8 st8 hQ8
    subst l8 y8 z8
    obtain ⟨rfl, N8q, e8⟩ := hQ8
    have N9 := Fr.app N2 N8q
    obtain ⟨cl10, Ar10, qk10, Sz10, Nn10, Hs10, Gf10⟩ := id V_b4
    have hin10 : ¬ ((0 : Int32) < 0 ∨ cl10.slots.size ≤ ((0 : Int32)).toNatClampNeg) := inb_of Sz10 ⟨by decide, by decide⟩
    obtain ⟨T11, h11, X11, e11, W11, st11⟩ := stC X8 hx hZ e8 Ar10 (j := (0 : Int32)) hin10 (g := (mkF m 18 #[.val (.int p1), .val (.ref b4)] [(.int (own_f3 p1)), (.int (0 : Int32)), (.ref b4)])) rfl rfl (hb hby own_d1_18)
    have V_b4_11 : Arv Z h11 b4 k4 .char (1 : Int32) [(.int (nar .char (own_f3 p1)))] (.int (0 : Int32)) := Arv.set Ar10 qk10 Sz10 Nn10 Hs10 Gf10 (fits_nar_char _) W11 0 rfl (Nat.le_of_ble_eq_true rfl)
    have N12 := Fr.snoc X11 N9 g_b4
    have O13 := O5.wr W11 g_b4
    have Z14 := Nat.le_trans Z6 (Keep.of_wr W11).1
    have K15 : Keep h0 h11 [] := K7.wr W11 (Or.inr sz_b4)
    obtain ⟨T16, h16, X16, e16, E16, A16, D16, -, st16⟩ := newO X11 hx hZ hown (hw _ (List.mem_of_getElem? (i := 14) rfl)) (hw _ (List.mem_of_getElem? (i := 15) rfl)) (hw _ (List.mem_of_getElem? (i := 16) rfl)) e11 (g := (mkF m 19 #[.val (.int p1), .val (.ref b4)] [])) rfl (hb hby own_d1_19) (by decide) (by decide)
    obtain ⟨b16, g16⟩ : ∃ z, z = h11.size := ⟨_, rfl⟩
    rw [← g16] at A16 D16 st16
    have ne_b4_b16 : b4 ≠ b16 := Nat.ne_of_lt (Nat.lt_of_lt_of_le V_b4_11.lt (Nat.le_of_eq g16.symm))
    have g_b16 : n0 ≤ b16 := Nat.le_trans Z14 (Nat.le_of_eq g16.symm)
    have sz_b16 : h0.size ≤ b16 := Nat.le_trans K15.1 (Nat.le_of_eq g16.symm)
    have f17 := V_b4_11.ext E16
    have O18 := O13.ext E16
    have Z19 := Nat.le_trans Z14 E16.1
    have K20 : Keep h0 h16 [] := K15.ext E16
    have F_coder_b16 : Fld Z h16 b16 "java/lang/String" "coder" "B" (.int (0 : Int32)) := D16 (Or.inr (hw _ (List.mem_of_getElem? (i := 40) rfl))) (ty := .byte) (by decide)
    have F_value_b16 : Fld Z h16 b16 "java/lang/String" "value" "[B" .null := D16 (Or.inr (hw _ (List.mem_of_getElem? (i := 42) rfl))) (ty := (.array .byte)) (by decide)
    obtain ⟨v21, _, ⟨T21, L21, k21, n21⟩, -, X21, ⟨Lc21, hQ21, l21, y21, z21⟩, st21⟩ := X16.specialBack hx (y := (⟨"java/lang/String", "<init>", "([C)V"⟩ : MethodName)) rfl hown (mvT hZ (hw _ (List.mem_of_getElem? (i := 17) rfl))) (mvT hZ (hw _ (List.mem_of_getElem? (i := 18) rfl))) (mvT hZ (hw _ (List.mem_of_getElem? (i := 19) rfl))) (by decide) (backOf (W := 1) (own_vA_rm4 l Z a0 hw [] b16 b4 k4 (nar .char (own_f3 p1)) w_COMPACT_STRINGS (0 : Int32) .null h16 n0 Z19 O18 f17 (own_c255 _) hcs S_COMPACT_STRINGS F_coder_b16 F_value_b16 A16 g_b16 ne_b4_b16) hZ (hw _ (List.mem_of_getElem? (i := 19) rfl)) (hw _ (List.mem_of_getElem? (i := 16) rfl)) (by decide) (by decide)) (g := (mkF m 24 #[.val (.int p1), .val (.ref b4)] [(.ref b4), (.ref b16), (.ref b16)])) rfl (by rw [hml]; rfl) (Steps.refl _) (a := b16) (argsL := [(.ref b4)]) (rest := [(.ref b16)]) (lenOf own_pd111 rfl) rfl (by show 2 * 0 + _ ≤ _; exact Nat.le_of_eq rfl) (hb hby own_d1_24) (fun _ _ => ⟨rfl, e16, (by decide : 2 + 1 ≤ _), (by decide : 5 + 1 ≤ _)⟩)
    dsimp only [Pt.U, Pt.locs, Pt.cells, Pt.slots] at X21 l21 y21 z21 st21 hQ21
    subst l21 y21 z21
    obtain ⟨x1_21, kr1_21, rfl, N21q, K21, hr21_x1, Q21_0, Q21_1, Q21_2, Q21_3⟩ := hQ21
    have ne_b4_x1_21 : b4 ≠ x1_21 := Nat.ne_of_lt (Nat.lt_of_lt_of_le f17.lt hr21_x1)
    have ne_b16_x1_21 : b16 ≠ x1_21 := Nat.ne_of_lt (Nat.lt_of_lt_of_le A16.lt hr21_x1)
    have g_x1_21 : n0 ≤ x1_21 := Nat.le_trans Z19 hr21_x1
    have sz_x1_21 : h0.size ≤ x1_21 := Nat.le_trans K20.1 hr21_x1
    have O22 := O18.keep K21 (allS g_b16 all0)
    have f23 := f17.keep K21 (ninS ne_b4_b16 nin0)
    have f24 := A16.keep K21
    have Z27 := Nat.le_trans Z19 K21.1
    have K28 : Keep h0 T21.heap [] := Keep.trans K20 K21 (allS (Or.inr sz_b16) all0)
    have N29 := Fr.app N12 N21q
    obtain ⟨fs, hr, hrun, hended, hW, hsame⟩ := X21.leave (hlocks := hlk) (v := some (.ref b16)) (fun h => by rw [Bd.returns] at h; cases h)
    refine ⟨_, _, k3 _ ?_, hrun, hended, _, _, rfl, ?_, ⟨_, rfl⟩, hW, hsame.mono (by decide) (by decide)⟩
    · show Steps p.tables e below (T1.setTop (mkF m 5 #[.val (.int p1), .unset] [(.int (1 : Int32)), (.int (own_f2 p1))])) _
      refine XS.icmpNo X1.here hx rfl (hb hby own_d1_5) rfl (teq hc1).2 ?_
      show Steps p.tables e below (T1.setTop (mkF m 8 #[.val (.int p1), .unset] [])) _
      refine XS.iconst X1.here hx rfl (hb hby own_d1_8) ?_
      show Steps p.tables e below (T1.setTop (mkF m 9 #[.val (.int p1), .unset] [(.int (1 : Int32))])) _
      refine st4 _ ?_
      show Steps p.tables e below (T4.setTop (mkF m 11 #[.val (.int p1), .unset] [(.ref b4)])) _
      refine XS.astoreN X4.here hx rfl (hb hby own_d1_11) rfl rfl (l' := #[.val (.int p1), .val (.ref b4)]) rfl ?_
      show Steps p.tables e below (T4.setTop (mkF m 12 #[.val (.int p1), .val (.ref b4)] [])) _
      refine XS.aloadN X4.here hx rfl (hb hby own_d1_12) rfl rfl ?_
      show Steps p.tables e below (T4.setTop (mkF m 13 #[.val (.int p1), .val (.ref b4)] [(.ref b4)])) _
      refine XS.iconst X4.here hx rfl (hb hby own_d1_13) ?_
      show Steps p.tables e below (T4.setTop (mkF m 14 #[.val (.int p1), .val (.ref b4)] [(.int (0 : Int32)), (.ref b4)])) _
      refine XS.iloadN X4.here hx rfl (hb hby own_d1_14) rfl ?_
      show Steps p.tables e below (T4.setTop (mkF m 15 #[.val (.int p1), .val (.ref b4)] [(.int p1), (.int (0 : Int32)), (.ref b4)])) _
      refine st8 _ ?_
      show Steps p.tables e below (T8.setTop (mkF m 18 #[.val (.int p1), .val (.ref b4)] [(.int (own_f3 p1)), (.int (0 : Int32)), (.ref b4)])) _
      refine st11 _ ?_
      show Steps p.tables e below (T11.setTop (mkF m 19 #[.val (.int p1), .val (.ref b4)] [])) _
      refine st16 _ ?_
      show Steps p.tables e below (T16.setTop (mkF m 22 #[.val (.int p1), .val (.ref b4)] [(.ref b16)])) _
      refine XS.dup X16.here hx rfl (hb hby own_d1_22) rfl rfl ?_
      show Steps p.tables e below (T16.setTop (mkF m 23 #[.val (.int p1), .val (.ref b4)] [(.ref b16), (.ref b16)])) _
      refine XS.aloadN X16.here hx rfl (hb hby own_d1_23) rfl rfl ?_
      show Steps p.tables e below (T16.setTop (mkF m 24 #[.val (.int p1), .val (.ref b4)] [(.ref b4), (.ref b16), (.ref b16)])) _
      refine st21.trans ?_
      show Steps p.tables e below (T21.setTop (mkF m 27 #[.val (.int p1), .val (.ref b4)] [(.ref b16)])) _
      jvm_step X21.here [X21.here.top, hx, (hb hby own_d1_27), X21.method', Bd.returns, Value.isRef, FieldType.isReference]
      first | (intro acts; rw [hr _ acts rfl rfl rfl]) | rw [hr _ _ rfl rfl rfl]
      exact Steps.refl _
    · show own_Q1 Z p1 w_COMPACT_STRINGS h0 n0 _ T21.heap _
      exact ⟨b16, x1_21, kr1_21, rfl, N29, K28, sz_b16, sz_x1_21, Q21_0, Q21_1, Q21_2, (own_cast (own_Nt hc1) (own_bst hc1) Q21_3)⟩
  ·
    obtain ⟨T30, h30, k30, X30, e30, E30, A30, st30⟩ := newP X1 hx hZ (hw _ (List.mem_of_getElem? (i := 10) rfl)) e1 (g := (mkF m 29 #[.val (.int p1), .unset] [(.int (2 : Int32))])) rfl (hb hby own_d1_29) rfl (by decide) (cap := 2) (by decide) (by decide) (by decide) (by decide)
    obtain ⟨b30, g30⟩ : ∃ z, z = h0.size := ⟨_, rfl⟩
    rw [← g30] at A30 st30
    have g_b30 : n0 ≤ b30 := Nat.le_trans Z0 (Nat.le_of_eq g30.symm)
    have sz_b30 : h0.size ≤ b30 := Nat.le_of_eq g30.symm
    have O31 := O0.ext E30
    have Z32 := Nat.le_trans Z0 E30.1
    have K33 : Keep h0 h30 [] := (Keep.refl h0 _).ext E30
    have V_b30 : Arv Z h30 b30 k30 .char (2 : Int32) [(.int (0 : Int32)), (.int (0 : Int32))] (.int (0 : Int32)) := (Arv.new A30 (by decide)).pad (pad_rep [] (.int (0 : Int32)) 2)
    obtain ⟨v34, _, ⟨T34, L34, k34, n34⟩, -, X34, ⟨Lc34, hQ34, l34, y34, z34⟩, st34⟩ := Jvm.LawKit.callS X30 hx (y := (⟨"com/example/nanshe/nanshe/engine/RequestEqualsPinLaw", "safe", "(I)C"⟩ : MethodName)) hown (mvT hZ (hw _ (List.mem_of_getElem? (i := 11) rfl))) (mvT hZ (hw _ (List.mem_of_getElem? (i := 12) rfl))) (mvT hZ (hw _ (List.mem_of_getElem? (i := 5) rfl))) (mvT hZ (hw _ (List.mem_of_getElem? (i := 13) rfl))) (by decide) (backOf (W := 2) (own_rm3 l Z a0 hw [] p1 h30 n0 Z32) hZ (hw _ (List.mem_of_getElem? (i := 13) rfl)) (hw _ (List.mem_of_getElem? (i := 5) rfl)) (by decide) (by decide)) (g := (mkF m 35 #[.val (.int p1), .val (.ref b30)] [(.int p1), (.int (0 : Int32)), (.ref b30)])) rfl (by rw [hml]; rfl) (argsL := [(.int p1)]) (rest := [(.int (0 : Int32)), (.ref b30)]) (lenOf own_pd110 rfl) rfl (by show 2 * 0 + _ ≤ _; exact Nat.le_of_eq rfl) (hb hby own_d1_35) (fun _ _ => ⟨rfl, e30, (by decide : 1 + 0 ≤ _), (by decide : 2 + 0 ≤ _)⟩)
    dsimp only [Pt.U, Pt.locs, Pt.cells, Pt.slots] at X34 l34 y34 z34 st34 hQ34
    subst l34 y34 z34
    obtain ⟨rfl, N34q, e34⟩ := hQ34
    have N35 := Fr.app N2 N34q
    obtain ⟨cl36, Ar36, qk36, Sz36, Nn36, Hs36, Gf36⟩ := id V_b30
    have hin36 : ¬ ((0 : Int32) < 0 ∨ cl36.slots.size ≤ ((0 : Int32)).toNatClampNeg) := inb_of Sz36 ⟨by decide, by decide⟩
    obtain ⟨T37, h37, X37, e37, W37, st37⟩ := stC X34 hx hZ e34 Ar36 (j := (0 : Int32)) hin36 (g := (mkF m 38 #[.val (.int p1), .val (.ref b30)] [(.int (own_f3 p1)), (.int (0 : Int32)), (.ref b30)])) rfl rfl (hb hby own_d1_38)
    have V_b30_37 : Arv Z h37 b30 k30 .char (2 : Int32) [(.int (nar .char (own_f3 p1))), (.int (0 : Int32))] (.int (0 : Int32)) := Arv.set Ar36 qk36 Sz36 Nn36 Hs36 Gf36 (fits_nar_char _) W37 0 rfl (Nat.le_of_ble_eq_true rfl)
    have N38 := Fr.snoc X37 N35 g_b30
    have O39 := O31.wr W37 g_b30
    have Z40 := Nat.le_trans Z32 (Keep.of_wr W37).1
    have K41 : Keep h0 h37 [] := K33.wr W37 (Or.inr sz_b30)
    obtain ⟨v42, _, ⟨T42, L42, k42, n42⟩, -, X42, ⟨Lc42, hQ42, l42, y42, z42⟩, st42⟩ := Jvm.LawKit.callS X37 hx (y := (⟨"com/example/nanshe/nanshe/engine/RequestEqualsPinLaw", "safe", "(I)C"⟩ : MethodName)) hown (mvT hZ (hw _ (List.mem_of_getElem? (i := 11) rfl))) (mvT hZ (hw _ (List.mem_of_getElem? (i := 12) rfl))) (mvT hZ (hw _ (List.mem_of_getElem? (i := 5) rfl))) (mvT hZ (hw _ (List.mem_of_getElem? (i := 13) rfl))) (by decide) (backOf (W := 2) (own_rm3 l Z a0 hw [] ((p1.toUInt32 >>> ((8 : Int32) &&& 31).toUInt32).toInt32) h37 n0 Z40) hZ (hw _ (List.mem_of_getElem? (i := 13) rfl)) (hw _ (List.mem_of_getElem? (i := 5) rfl)) (by decide) (by decide)) (g := (mkF m 45 #[.val (.int p1), .val (.ref b30)] [(.int ((p1.toUInt32 >>> ((8 : Int32) &&& 31).toUInt32).toInt32)), (.int (1 : Int32)), (.ref b30)])) rfl (by rw [hml]; rfl) (argsL := [(.int ((p1.toUInt32 >>> ((8 : Int32) &&& 31).toUInt32).toInt32))]) (rest := [(.int (1 : Int32)), (.ref b30)]) (lenOf own_pd110 rfl) rfl (by show 2 * 0 + _ ≤ _; exact Nat.le_of_eq rfl) (hb hby own_d1_45) (fun _ _ => ⟨rfl, e37, (by decide : 1 + 0 ≤ _), (by decide : 2 + 0 ≤ _)⟩)
    dsimp only [Pt.U, Pt.locs, Pt.cells, Pt.slots] at X42 l42 y42 z42 st42 hQ42
    subst l42 y42 z42
    obtain ⟨rfl, N42q, e42⟩ := hQ42
    have N43 := Fr.app N38 N42q
    obtain ⟨cl44, Ar44, qk44, Sz44, Nn44, Hs44, Gf44⟩ := id V_b30_37
    have hin44 : ¬ ((1 : Int32) < 0 ∨ cl44.slots.size ≤ ((1 : Int32)).toNatClampNeg) := inb_of Sz44 ⟨by decide, by decide⟩
    obtain ⟨T45, h45, X45, e45, W45, st45⟩ := stC X42 hx hZ e42 Ar44 (j := (1 : Int32)) hin44 (g := (mkF m 48 #[.val (.int p1), .val (.ref b30)] [(.int (own_f3 ((p1.toUInt32 >>> ((8 : Int32) &&& 31).toUInt32).toInt32))), (.int (1 : Int32)), (.ref b30)])) rfl rfl (hb hby own_d1_48)
    have V_b30_45 : Arv Z h45 b30 k30 .char (2 : Int32) [(.int (nar .char (own_f3 p1))), (.int (nar .char (own_f3 ((p1.toUInt32 >>> ((8 : Int32) &&& 31).toUInt32).toInt32))))] (.int (0 : Int32)) := Arv.set Ar44 qk44 Sz44 Nn44 Hs44 Gf44 (fits_nar_char _) W45 1 rfl (Nat.le_of_ble_eq_true rfl)
    have N46 := Fr.snoc X45 N43 g_b30
    have O47 := O39.wr W45 g_b30
    have Z48 := Nat.le_trans Z40 (Keep.of_wr W45).1
    have K49 : Keep h0 h45 [] := K41.wr W45 (Or.inr sz_b30)
    obtain ⟨T50, h50, X50, e50, E50, A50, D50, -, st50⟩ := newO X45 hx hZ hown (hw _ (List.mem_of_getElem? (i := 14) rfl)) (hw _ (List.mem_of_getElem? (i := 15) rfl)) (hw _ (List.mem_of_getElem? (i := 16) rfl)) e45 (g := (mkF m 49 #[.val (.int p1), .val (.ref b30)] [])) rfl (hb hby own_d1_49) (by decide) (by decide)
    obtain ⟨b50, g50⟩ : ∃ z, z = h45.size := ⟨_, rfl⟩
    rw [← g50] at A50 D50 st50
    have ne_b30_b50 : b30 ≠ b50 := Nat.ne_of_lt (Nat.lt_of_lt_of_le V_b30_45.lt (Nat.le_of_eq g50.symm))
    have g_b50 : n0 ≤ b50 := Nat.le_trans Z48 (Nat.le_of_eq g50.symm)
    have sz_b50 : h0.size ≤ b50 := Nat.le_trans K49.1 (Nat.le_of_eq g50.symm)
    have f51 := V_b30_45.ext E50
    have O52 := O47.ext E50
    have Z53 := Nat.le_trans Z48 E50.1
    have K54 : Keep h0 h50 [] := K49.ext E50
    have F_coder_b50 : Fld Z h50 b50 "java/lang/String" "coder" "B" (.int (0 : Int32)) := D50 (Or.inr (hw _ (List.mem_of_getElem? (i := 40) rfl))) (ty := .byte) (by decide)
    have F_value_b50 : Fld Z h50 b50 "java/lang/String" "value" "[B" .null := D50 (Or.inr (hw _ (List.mem_of_getElem? (i := 42) rfl))) (ty := (.array .byte)) (by decide)
    obtain ⟨v55, _, ⟨T55, L55, k55, n55⟩, -, X55, ⟨Lc55, hQ55, l55, y55, z55⟩, st55⟩ := X50.specialBack hx (y := (⟨"java/lang/String", "<init>", "([C)V"⟩ : MethodName)) rfl hown (mvT hZ (hw _ (List.mem_of_getElem? (i := 17) rfl))) (mvT hZ (hw _ (List.mem_of_getElem? (i := 18) rfl))) (mvT hZ (hw _ (List.mem_of_getElem? (i := 19) rfl))) (by decide) (backOf (W := 1) (own_vB_rm4 l Z a0 hw [] b50 b30 k30 (nar .char (own_f3 p1)) (nar .char (own_f3 ((p1.toUInt32 >>> ((8 : Int32) &&& 31).toUInt32).toInt32))) w_COMPACT_STRINGS (0 : Int32) .null h50 n0 Z53 O52 f51 (own_c255 _) (own_c255 _) hcs S_COMPACT_STRINGS F_coder_b50 F_value_b50 A50 g_b50 ne_b30_b50) hZ (hw _ (List.mem_of_getElem? (i := 19) rfl)) (hw _ (List.mem_of_getElem? (i := 16) rfl)) (by decide) (by decide)) (g := (mkF m 54 #[.val (.int p1), .val (.ref b30)] [(.ref b30), (.ref b50), (.ref b50)])) rfl (by rw [hml]; rfl) (Steps.refl _) (a := b50) (argsL := [(.ref b30)]) (rest := [(.ref b50)]) (lenOf own_pd111 rfl) rfl (by show 2 * 0 + _ ≤ _; exact Nat.le_of_eq rfl) (hb hby own_d1_54) (fun _ _ => ⟨rfl, e50, (by decide : 2 + 1 ≤ _), (by decide : 6 + 2 ≤ _)⟩)
    dsimp only [Pt.U, Pt.locs, Pt.cells, Pt.slots] at X55 l55 y55 z55 st55 hQ55
    subst l55 y55 z55
    obtain ⟨x1_55, kr1_55, rfl, N55q, K55, hr55_x1, Q55_0, Q55_1, Q55_2, Q55_3⟩ := hQ55
    have ne_b30_x1_55 : b30 ≠ x1_55 := Nat.ne_of_lt (Nat.lt_of_lt_of_le f51.lt hr55_x1)
    have ne_b50_x1_55 : b50 ≠ x1_55 := Nat.ne_of_lt (Nat.lt_of_lt_of_le A50.lt hr55_x1)
    have g_x1_55 : n0 ≤ x1_55 := Nat.le_trans Z53 hr55_x1
    have sz_x1_55 : h0.size ≤ x1_55 := Nat.le_trans K54.1 hr55_x1
    have O56 := O52.keep K55 (allS g_b50 all0)
    have f57 := f51.keep K55 (ninS ne_b30_b50 nin0)
    have f58 := A50.keep K55
    have Z61 := Nat.le_trans Z53 K55.1
    have K62 : Keep h0 T55.heap [] := Keep.trans K54 K55 (allS (Or.inr sz_b50) all0)
    have N63 := Fr.app N46 N55q
    obtain ⟨fs, hr, hrun, hended, hW, hsame⟩ := X55.leave (hlocks := hlk) (v := some (.ref b50)) (fun h => by rw [Bd.returns] at h; cases h)
    refine ⟨_, _, k3 _ ?_, hrun, hended, _, _, rfl, ?_, ⟨_, rfl⟩, hW, hsame.mono (by decide) (by decide)⟩
    · show Steps p.tables e below (T1.setTop (mkF m 5 #[.val (.int p1), .unset] [(.int (1 : Int32)), (.int (own_f2 p1))])) _
      refine XS.icmpYes X1.here hx rfl (pc0 := 5) (pc' := 28) rfl (hb hby own_d1_5) rfl (feq hc1).2 (by decide) (by decide) ?_
      show Steps p.tables e below (T1.setTop (mkF m 28 #[.val (.int p1), .unset] [])) _
      refine XS.iconst X1.here hx rfl (hb hby own_d1_28) ?_
      show Steps p.tables e below (T1.setTop (mkF m 29 #[.val (.int p1), .unset] [(.int (2 : Int32))])) _
      refine st30 _ ?_
      show Steps p.tables e below (T30.setTop (mkF m 31 #[.val (.int p1), .unset] [(.ref b30)])) _
      refine XS.astoreN X30.here hx rfl (hb hby own_d1_31) rfl rfl (l' := #[.val (.int p1), .val (.ref b30)]) rfl ?_
      show Steps p.tables e below (T30.setTop (mkF m 32 #[.val (.int p1), .val (.ref b30)] [])) _
      refine XS.aloadN X30.here hx rfl (hb hby own_d1_32) rfl rfl ?_
      show Steps p.tables e below (T30.setTop (mkF m 33 #[.val (.int p1), .val (.ref b30)] [(.ref b30)])) _
      refine XS.iconst X30.here hx rfl (hb hby own_d1_33) ?_
      show Steps p.tables e below (T30.setTop (mkF m 34 #[.val (.int p1), .val (.ref b30)] [(.int (0 : Int32)), (.ref b30)])) _
      refine XS.iloadN X30.here hx rfl (hb hby own_d1_34) rfl ?_
      show Steps p.tables e below (T30.setTop (mkF m 35 #[.val (.int p1), .val (.ref b30)] [(.int p1), (.int (0 : Int32)), (.ref b30)])) _
      refine st34 _ ?_
      show Steps p.tables e below (T34.setTop (mkF m 38 #[.val (.int p1), .val (.ref b30)] [(.int (own_f3 p1)), (.int (0 : Int32)), (.ref b30)])) _
      refine st37 _ ?_
      show Steps p.tables e below (T37.setTop (mkF m 39 #[.val (.int p1), .val (.ref b30)] [])) _
      refine XS.aloadN X37.here hx rfl (hb hby own_d1_39) rfl rfl ?_
      show Steps p.tables e below (T37.setTop (mkF m 40 #[.val (.int p1), .val (.ref b30)] [(.ref b30)])) _
      refine XS.iconst X37.here hx rfl (hb hby own_d1_40) ?_
      show Steps p.tables e below (T37.setTop (mkF m 41 #[.val (.int p1), .val (.ref b30)] [(.int (1 : Int32)), (.ref b30)])) _
      refine XS.iloadN X37.here hx rfl (hb hby own_d1_41) rfl ?_
      show Steps p.tables e below (T37.setTop (mkF m 42 #[.val (.int p1), .val (.ref b30)] [(.int p1), (.int (1 : Int32)), (.ref b30)])) _
      refine XS.bipush X37.here hx rfl (hb hby own_d1_42) ?_
      show Steps p.tables e below (T37.setTop (mkF m 44 #[.val (.int p1), .val (.ref b30)] [(.int (8 : Int32)), (.int p1), (.int (1 : Int32)), (.ref b30)])) _
      refine XS.iushr X37.here hx rfl (hb hby own_d1_44) rfl ?_
      show Steps p.tables e below (T37.setTop (mkF m 45 #[.val (.int p1), .val (.ref b30)] [(.int ((p1.toUInt32 >>> ((8 : Int32) &&& 31).toUInt32).toInt32)), (.int (1 : Int32)), (.ref b30)])) _
      refine st42 _ ?_
      show Steps p.tables e below (T42.setTop (mkF m 48 #[.val (.int p1), .val (.ref b30)] [(.int (own_f3 ((p1.toUInt32 >>> ((8 : Int32) &&& 31).toUInt32).toInt32))), (.int (1 : Int32)), (.ref b30)])) _
      refine st45 _ ?_
      show Steps p.tables e below (T45.setTop (mkF m 49 #[.val (.int p1), .val (.ref b30)] [])) _
      refine st50 _ ?_
      show Steps p.tables e below (T50.setTop (mkF m 52 #[.val (.int p1), .val (.ref b30)] [(.ref b50)])) _
      refine XS.dup X50.here hx rfl (hb hby own_d1_52) rfl rfl ?_
      show Steps p.tables e below (T50.setTop (mkF m 53 #[.val (.int p1), .val (.ref b30)] [(.ref b50), (.ref b50)])) _
      refine XS.aloadN X50.here hx rfl (hb hby own_d1_53) rfl rfl ?_
      show Steps p.tables e below (T50.setTop (mkF m 54 #[.val (.int p1), .val (.ref b30)] [(.ref b30), (.ref b50), (.ref b50)])) _
      refine st55.trans ?_
      show Steps p.tables e below (T55.setTop (mkF m 57 #[.val (.int p1), .val (.ref b30)] [(.ref b50)])) _
      jvm_step X55.here [X55.here.top, hx, (hb hby own_d1_57), X55.method', Bd.returns, Value.isRef, FieldType.isReference]
      first | (intro acts; rw [hr _ acts rfl rfl rfl]) | rw [hr _ _ rfl rfl rfl]
      exact Steps.refl _
    · show own_Q1 Z p1 w_COMPACT_STRINGS h0 n0 _ T55.heap _
      exact ⟨b50, x1_55, kr1_55, rfl, N63, K62, sz_b50, sz_x1_55, Q55_0, Q55_1, Q55_2, (own_cast (own_Nf hc1) (own_bsf hc1) Q55_3)⟩
-- body 17
theorem own_d17_0 : decode jdk_42_method_152_code 0 = .ok (.getstatic 38, 3) := by decide +kernel
theorem own_d17_3 : decode jdk_42_method_152_code 3 = .ok (.ifCond .eq 10, 3) := by decide +kernel
theorem own_d17_6 : decode jdk_42_method_152_code 6 = .ok (.aload_n 0, 1) := by decide +kernel
theorem own_d17_7 : decode jdk_42_method_152_code 7 = .ok (.getfield 15, 3) := by decide +kernel
theorem own_d17_10 : decode jdk_42_method_152_code 10 = .ok (.goto 4, 3) := by decide +kernel
theorem own_d17_14 : decode jdk_42_method_152_code 14 = .ok (.ireturn, 1) := by decide +kernel
theorem own_ef17 (m : MethodId) (x0 : Addr) : entryFrame m #[(.ref x0)] 1 = mkF m 0 #[.val (.ref x0)] [] := by first | (simp [entryFrame, mkF, argsToLocals, Value.category]; done) | rfl
def own_f17 : Int32 := (0 : Int32)
def own_Q17 (Z : State) (a1 : Addr) (w_COMPACT_STRINGS : Int32) (h0 : Heap) (n0 : Nat) (v : Option Value) (h : Heap) (L : List Loc) : Prop := v = some (.int (own_f17)) ∧ Fr n0 L ∧ h = h0
set_option maxRecDepth 65536 in
set_option maxHeartbeats 40000000 in
theorem own_rm17 (l : Launch) (Z : State) (a0 : Array Value) (hw : ∀ d ∈ tables_1, d.before a0 Z = true) (ws : List Jvm.Cond) (a1 : Addr) (w_COMPACT_STRINGS : Int32) (h0 : Heap) (n0 : Nat) (Z0 : n0 ≤ h0.size) (O0 : Old Z n0 h0) (hcs : ¬ w_COMPACT_STRINGS = (0 : Int32)) (S_COMPACT_STRINGS : Sta Z Z.heap "java/lang/String" "COMPACT_STRINGS" "Z" (.int w_COMPACT_STRINGS)) (F_coder_a1 : Fld Z h0 a1 "java/lang/String" "coder" "B" (.int (0 : Int32))) :
    MetFree l (⟨"java/lang/String", "coder", "()B"⟩ : MethodName) (head1 (Jvm.Cond.code (⟨"java/lang/String", "coder", "()B"⟩ : MethodName) jdk_42_method_152_code 1 (some .byte) :: ws) ({ frames := 0, cells := 0, slots := 0, locals := 0 } : Room)) (fun a U => a = #[(.ref a1)] ∧ Z.Warmed39 U.vm ∧ U.heap = h0) (fun _ _ _ _ _ => True) (fun _ U o U' => ∃ v L, o = .returned v ∧ own_Q17 Z a1 w_COMPACT_STRINGS h0 n0 v U'.heap L ∧ FrameEnd U o U' L ({ frames := 0, cells := 0, slots := 0, locals := 0 } : Room).cells ({ frames := 0, cells := 0, slots := 0, locals := 0 } : Room).slots) := by
  refine MetFree.of_bodySF (plainFor_of_name own_pn79) hisR ?_
  intro p e s m args below meth c s₁ Bd hml0 hP hK
  obtain ⟨rfl, hZ, hh⟩ := hP
  have hx := Bd.exec
  have hby := Bd.bytes
  have hml : c.maxLocals = 1 := hml0
  have hown : s.vm.findClass "java/lang/String" = some m.cls := findClass_of_methodNamed Bd.named
  have hnm := (name_of_methodNamed Bd.named Bd.method).1
  have X0 : Stand p l e ({ frames := 0, cells := 0, slots := 0, locals := 0 } : Room) s m #[(.ref a1)] below meth c s₁ [] 0 0 := Stand.of_body Bd
  have hS0 : s.Since s.vm 0 := (State.WarmedH.refl s).since 0
  have hk0 : 0 ≤ h0.size := Nat.zero_le _
  have hlk := Bd.notSynchronized
  have e0 : s₁.heap = h0 := by rw [← hh, Bd.state]; rfl
  have N0 := Fr.nil n0
  have pre0 : ∀ t, Steps p.tables e below (s₁.setTop (mkF m 0 #[.val (.ref a1)] [])) t → Steps p.tables e below (s₁.setTop (entryFrame m #[(.ref a1)] 1)) t := fun t k => castTop (own_ef17 m a1) k
  obtain ⟨T1, X1, e1, st1⟩ := getS2 X0 hx hZ hown (host := "") (Or.inl (hw _ (List.mem_of_getElem? (i := 27) rfl))) Via.refl e0 (S_COMPACT_STRINGS.ext O0.2) (g := (mkF m 0 #[.val (.ref a1)] [])) rfl (hb hby own_d17_0)
  obtain ⟨T2, X2, e2, st2⟩ := getF X1 hx hZ hown (host := "") (Or.inl (hw _ (List.mem_of_getElem? (i := 39) rfl))) Via.refl e1 F_coder_a1 (g := (mkF m 7 #[.val (.ref a1)] [(.ref a1)])) rfl rfl (hb hby own_d17_7)
  obtain ⟨fs, hr, hrun, hended, hW, hsame⟩ := X2.leave (hlocks := hlk) (v := some (.int (0 : Int32))) (fun h => by rw [Bd.returns] at h; cases h)
  refine ⟨_, _, pre0 _ ?_, hrun, hended, _, _, rfl, ?_, ⟨_, rfl⟩, hW, hsame.mono (by decide) (by decide)⟩
  · show Steps p.tables e below (s₁.setTop (mkF m 0 #[.val (.ref a1)] [])) _
    refine st1 _ ?_
    show Steps p.tables e below (T1.setTop (mkF m 3 #[.val (.ref a1)] [(.int w_COMPACT_STRINGS)])) _
    refine XS.ifNo X1.here hx rfl (hb hby own_d17_3) rfl ((if0 _ _).trans (feq hcs).1) ?_
    show Steps p.tables e below (T1.setTop (mkF m 6 #[.val (.ref a1)] [])) _
    refine XS.aloadN X1.here hx rfl (hb hby own_d17_6) rfl rfl ?_
    show Steps p.tables e below (T1.setTop (mkF m 7 #[.val (.ref a1)] [(.ref a1)])) _
    refine st2 _ ?_
    show Steps p.tables e below (T2.setTop (mkF m 10 #[.val (.ref a1)] [(.int (0 : Int32))])) _
    refine XS.goto X2.here hx rfl (pc0 := 10) (pc' := 14) rfl (hb hby own_d17_10) (by decide) (by decide) ?_
    show Steps p.tables e below (T2.setTop (mkF m 14 #[.val (.ref a1)] [(.int (0 : Int32))])) _
    exact retN X2 hx (t := .byte) Bd.returns (by simp) (hb hby own_d17_14) hr
  · show own_Q17 Z a1 w_COMPACT_STRINGS h0 n0 _ T2.heap _
    rw [e2]
    exact ⟨(by rw [own_f17]), N0, rfl⟩
-- body 19
theorem own_d19_0 : decode jdk_42_method_154_code 0 = .ok (.getstatic 38, 3) := by decide +kernel
theorem own_d19_3 : decode jdk_42_method_154_code 3 = .ok (.ifCond .eq 14, 3) := by decide +kernel
theorem own_d19_6 : decode jdk_42_method_154_code 6 = .ok (.aload_n 0, 1) := by decide +kernel
theorem own_d19_7 : decode jdk_42_method_154_code 7 = .ok (.getfield 15, 3) := by decide +kernel
theorem own_d19_10 : decode jdk_42_method_154_code 10 = .ok (.ifCond .ne 7, 3) := by decide +kernel
theorem own_d19_13 : decode jdk_42_method_154_code 13 = .ok (.iconst 1, 1) := by decide +kernel
theorem own_d19_14 : decode jdk_42_method_154_code 14 = .ok (.goto 4, 3) := by decide +kernel
theorem own_d19_18 : decode jdk_42_method_154_code 18 = .ok (.ireturn, 1) := by decide +kernel
theorem own_ef19 (m : MethodId) (x0 : Addr) : entryFrame m #[(.ref x0)] 1 = mkF m 0 #[.val (.ref x0)] [] := by first | (simp [entryFrame, mkF, argsToLocals, Value.category]; done) | rfl
def own_f19 : Int32 := (1 : Int32)
def own_Q19 (Z : State) (a1 : Addr) (w_COMPACT_STRINGS : Int32) (h0 : Heap) (n0 : Nat) (v : Option Value) (h : Heap) (L : List Loc) : Prop := v = some (.int (own_f19)) ∧ Fr n0 L ∧ h = h0
set_option maxRecDepth 65536 in
set_option maxHeartbeats 40000000 in
theorem own_rm19 (l : Launch) (Z : State) (a0 : Array Value) (hw : ∀ d ∈ tables_1, d.before a0 Z = true) (ws : List Jvm.Cond) (a1 : Addr) (w_COMPACT_STRINGS : Int32) (h0 : Heap) (n0 : Nat) (Z0 : n0 ≤ h0.size) (O0 : Old Z n0 h0) (hcs : ¬ w_COMPACT_STRINGS = (0 : Int32)) (S_COMPACT_STRINGS : Sta Z Z.heap "java/lang/String" "COMPACT_STRINGS" "Z" (.int w_COMPACT_STRINGS)) (F_coder_a1 : Fld Z h0 a1 "java/lang/String" "coder" "B" (.int (0 : Int32))) :
    MetFree l (⟨"java/lang/String", "isLatin1", "()Z"⟩ : MethodName) (head1 (Jvm.Cond.code (⟨"java/lang/String", "isLatin1", "()Z"⟩ : MethodName) jdk_42_method_154_code 1 (some .boolean) :: ws) ({ frames := 0, cells := 0, slots := 0, locals := 0 } : Room)) (fun a U => a = #[(.ref a1)] ∧ Z.Warmed39 U.vm ∧ U.heap = h0) (fun _ _ _ _ _ => True) (fun _ U o U' => ∃ v L, o = .returned v ∧ own_Q19 Z a1 w_COMPACT_STRINGS h0 n0 v U'.heap L ∧ FrameEnd U o U' L ({ frames := 0, cells := 0, slots := 0, locals := 0 } : Room).cells ({ frames := 0, cells := 0, slots := 0, locals := 0 } : Room).slots) := by
  refine MetFree.of_bodySF (plainFor_of_name own_pn79) hisR ?_
  intro p e s m args below meth c s₁ Bd hml0 hP hK
  obtain ⟨rfl, hZ, hh⟩ := hP
  have hx := Bd.exec
  have hby := Bd.bytes
  have hml : c.maxLocals = 1 := hml0
  have hown : s.vm.findClass "java/lang/String" = some m.cls := findClass_of_methodNamed Bd.named
  have hnm := (name_of_methodNamed Bd.named Bd.method).1
  have X0 : Stand p l e ({ frames := 0, cells := 0, slots := 0, locals := 0 } : Room) s m #[(.ref a1)] below meth c s₁ [] 0 0 := Stand.of_body Bd
  have hS0 : s.Since s.vm 0 := (State.WarmedH.refl s).since 0
  have hk0 : 0 ≤ h0.size := Nat.zero_le _
  have hlk := Bd.notSynchronized
  have e0 : s₁.heap = h0 := by rw [← hh, Bd.state]; rfl
  have N0 := Fr.nil n0
  have pre0 : ∀ t, Steps p.tables e below (s₁.setTop (mkF m 0 #[.val (.ref a1)] [])) t → Steps p.tables e below (s₁.setTop (entryFrame m #[(.ref a1)] 1)) t := fun t k => castTop (own_ef19 m a1) k
  obtain ⟨T1, X1, e1, st1⟩ := getS2 X0 hx hZ hown (host := "") (Or.inl (hw _ (List.mem_of_getElem? (i := 27) rfl))) Via.refl e0 (S_COMPACT_STRINGS.ext O0.2) (g := (mkF m 0 #[.val (.ref a1)] [])) rfl (hb hby own_d19_0)
  obtain ⟨T2, X2, e2, st2⟩ := getF X1 hx hZ hown (host := "") (Or.inl (hw _ (List.mem_of_getElem? (i := 39) rfl))) Via.refl e1 F_coder_a1 (g := (mkF m 7 #[.val (.ref a1)] [(.ref a1)])) rfl rfl (hb hby own_d19_7)
  obtain ⟨fs, hr, hrun, hended, hW, hsame⟩ := X2.leave (hlocks := hlk) (v := some (.int (1 : Int32))) (fun h => by rw [Bd.returns] at h; cases h)
  refine ⟨_, _, pre0 _ ?_, hrun, hended, _, _, rfl, ?_, ⟨_, rfl⟩, hW, hsame.mono (by decide) (by decide)⟩
  · show Steps p.tables e below (s₁.setTop (mkF m 0 #[.val (.ref a1)] [])) _
    refine st1 _ ?_
    show Steps p.tables e below (T1.setTop (mkF m 3 #[.val (.ref a1)] [(.int w_COMPACT_STRINGS)])) _
    refine XS.ifNo X1.here hx rfl (hb hby own_d19_3) rfl ((if0 _ _).trans (feq hcs).1) ?_
    show Steps p.tables e below (T1.setTop (mkF m 6 #[.val (.ref a1)] [])) _
    refine XS.aloadN X1.here hx rfl (hb hby own_d19_6) rfl rfl ?_
    show Steps p.tables e below (T1.setTop (mkF m 7 #[.val (.ref a1)] [(.ref a1)])) _
    refine st2 _ ?_
    show Steps p.tables e below (T2.setTop (mkF m 10 #[.val (.ref a1)] [(.int (0 : Int32))])) _
    refine XS.ifNo X2.here hx rfl (hb hby own_d19_10) rfl ((if0 _ _).trans (teq (by decide : (0 : Int32) = (0 : Int32))).2) ?_
    show Steps p.tables e below (T2.setTop (mkF m 13 #[.val (.ref a1)] [])) _
    refine XS.iconst X2.here hx rfl (hb hby own_d19_13) ?_
    show Steps p.tables e below (T2.setTop (mkF m 14 #[.val (.ref a1)] [(.int (1 : Int32))])) _
    refine XS.goto X2.here hx rfl (pc0 := 14) (pc' := 18) rfl (hb hby own_d19_14) (by decide) (by decide) ?_
    show Steps p.tables e below (T2.setTop (mkF m 18 #[.val (.ref a1)] [(.int (1 : Int32))])) _
    exact retN X2 hx (t := .boolean) Bd.returns (by simp) (hb hby own_d19_18) hr
  · show own_Q19 Z a1 w_COMPACT_STRINGS h0 n0 _ T2.heap _
    rw [e2]
    exact ⟨(by rw [own_f19]), N0, rfl⟩
-- body 16, variant A
theorem own_d16_0 : decode jdk_42_method_54_code 0 = .ok (.aload_n 0, 1) := by decide +kernel
theorem own_d16_1 : decode jdk_42_method_54_code 1 = .ok (.getfield 9, 3) := by decide +kernel
theorem own_d16_4 : decode jdk_42_method_54_code 4 = .ok (.arraylength, 1) := by decide +kernel
theorem own_d16_5 : decode jdk_42_method_54_code 5 = .ok (.aload_n 0, 1) := by decide +kernel
theorem own_d16_6 : decode jdk_42_method_54_code 6 = .ok (.invokevirtual 335, 3) := by decide +kernel
theorem own_d16_9 : decode jdk_42_method_54_code 9 = .ok (.ishr, 1) := by decide +kernel
theorem own_d16_10 : decode jdk_42_method_54_code 10 = .ok (.ireturn, 1) := by decide +kernel
theorem own_vA_ef16 (m : MethodId) (x0 : Addr) : entryFrame m #[(.ref x0)] 1 = mkF m 0 #[.val (.ref x0)] [] := by first | (simp [entryFrame, mkF, argsToLocals, Value.category]; done) | rfl
def own_vA_f16 : Int32 := (1 : Int32)
def own_vA_Q16 (Z : State) (a1 : Addr) (w_value_a1 : Addr) (k_w_value_a1 : ClassId) (y0 : Int32) (w_COMPACT_STRINGS : Int32) (h0 : Heap) (n0 : Nat) (v : Option Value) (h : Heap) (L : List Loc) : Prop := v = some (.int (own_vA_f16)) ∧ Fr n0 L ∧ h = h0
set_option maxRecDepth 65536 in
set_option maxHeartbeats 40000000 in
theorem own_vA_rm16 (l : Launch) (Z : State) (a0 : Array Value) (hw : ∀ d ∈ tables_1, d.before a0 Z = true) (ws : List Jvm.Cond) (a1 : Addr) (w_value_a1 : Addr) (k_w_value_a1 : ClassId) (y0 : Int32) (w_COMPACT_STRINGS : Int32) (h0 : Heap) (n0 : Nat) (Z0 : n0 ≤ h0.size) (O0 : Old Z n0 h0) (V_w_value_a1 : Arv Z h0 w_value_a1 k_w_value_a1 .byte (1 : Int32) [(.int y0)] (.int (0 : Int32))) (hcs : ¬ w_COMPACT_STRINGS = (0 : Int32)) (F_value_a1 : Fld Z h0 a1 "java/lang/String" "value" "[B" (.ref w_value_a1)) (S_COMPACT_STRINGS : Sta Z Z.heap "java/lang/String" "COMPACT_STRINGS" "Z" (.int w_COMPACT_STRINGS)) (F_coder_a1 : Fld Z h0 a1 "java/lang/String" "coder" "B" (.int (0 : Int32))) (E_a1 : Exa Z h0 a1 "java/lang/String") :
    MetFree l (⟨"java/lang/String", "length", "()I"⟩ : MethodName) (head1 (Jvm.Cond.code (⟨"java/lang/String", "length", "()I"⟩ : MethodName) jdk_42_method_54_code 1 (some .int) :: ws) ({ frames := 1, cells := 0, slots := 0, locals := 13 } : Room)) (fun a U => a = #[(.ref a1)] ∧ Z.Warmed39 U.vm ∧ U.heap = h0) (fun _ _ _ _ _ => True) (fun _ U o U' => ∃ v L, o = .returned v ∧ own_vA_Q16 Z a1 w_value_a1 k_w_value_a1 y0 w_COMPACT_STRINGS h0 n0 v U'.heap L ∧ FrameEnd U o U' L ({ frames := 1, cells := 0, slots := 0, locals := 13 } : Room).cells ({ frames := 1, cells := 0, slots := 0, locals := 13 } : Room).slots) := by
  refine MetFree.of_bodySF (plainFor_of_name own_pn79) hisR ?_
  intro p e s m args below meth c s₁ Bd hml0 hP hK
  obtain ⟨rfl, hZ, hh⟩ := hP
  have hx := Bd.exec
  have hby := Bd.bytes
  have hml : c.maxLocals = 1 := hml0
  have hown : s.vm.findClass "java/lang/String" = some m.cls := findClass_of_methodNamed Bd.named
  have hnm := (name_of_methodNamed Bd.named Bd.method).1
  have X0 : Stand p l e ({ frames := 1, cells := 0, slots := 0, locals := 13 } : Room) s m #[(.ref a1)] below meth c s₁ [] 0 0 := Stand.of_body Bd
  have hS0 : s.Since s.vm 0 := (State.WarmedH.refl s).since 0
  have hk0 : 0 ≤ h0.size := Nat.zero_le _
  have hlk := Bd.notSynchronized
  have e0 : s₁.heap = h0 := by rw [← hh, Bd.state]; rfl
  have N0 := Fr.nil n0
  have pre0 : ∀ t, Steps p.tables e below (s₁.setTop (mkF m 0 #[.val (.ref a1)] [])) t → Steps p.tables e below (s₁.setTop (entryFrame m #[(.ref a1)] 1)) t := fun t k => castTop (own_vA_ef16 m a1) k
  obtain ⟨T1, X1, e1, st1⟩ := getF X0 hx hZ hown (host := "") (Or.inl (hw _ (List.mem_of_getElem? (i := 41) rfl))) Via.refl e0 F_value_a1 (g := (mkF m 1 #[.val (.ref a1)] [(.ref a1)])) rfl rfl (hb hby own_d16_1)
  obtain ⟨cl2, Ar2, qk2, Sz2, Nn2, Hs2, Gf2⟩ := id V_w_value_a1
  obtain ⟨cq3, kq3, q3a, q3b, q3c⟩ := isOf hZ e1 E_a1
  obtain ⟨v3, _, ⟨T3, L3, k3, n3⟩, -, X3, ⟨Lc3, hQ3, l3, y3, z3⟩, st3⟩ := X1.virtualBack hx (y := (⟨"java/lang/String", "coder", "()B"⟩ : MethodName)) (z := (⟨"java/lang/String", "coder", "()B"⟩ : MethodName)) hown (mvT hZ (hw _ (List.mem_of_getElem? (i := 73) rfl))) (mvT hZ (hw _ (List.mem_of_getElem? (i := 74) rfl))) (notFace_of_selects (args := #[]) (mvT hZ (hw _ (List.mem_of_getElem? (i := 76) rfl)))) (mvT hZ (hw _ (List.mem_of_getElem? (i := 76) rfl))) (mvT hZ (hw _ (List.mem_of_getElem? (i := 75) rfl))) (by decide) (backOf (W := 1) (own_rm17 l Z a0 hw [] a1 w_COMPACT_STRINGS h0 n0 Z0 O0 hcs S_COMPACT_STRINGS F_coder_a1) hZ (hw _ (List.mem_of_getElem? (i := 77) rfl)) (hw _ (List.mem_of_getElem? (i := 16) rfl)) (by decide) (by decide)) q3a q3c (g := (mkF m 6 #[.val (.ref a1)] [(.ref a1), (.int (1 : Int32))])) rfl (by rw [hml]; rfl) (Steps.refl _) (argsL := []) (rest := [(.int (1 : Int32))]) (lenOf own_pd163 rfl) rfl (by show 2 * 0 + _ ≤ _; exact Nat.le_of_eq rfl) (hb hby own_d16_6) (fun _ _ => ⟨rfl, e1, (by decide : 0 + 0 ≤ _), (by decide : 0 + 0 ≤ _)⟩)
  dsimp only [Pt.U, Pt.locs, Pt.cells, Pt.slots] at X3 l3 y3 z3 st3 hQ3
  subst l3 y3 z3
  obtain ⟨hv3, N3q, e3⟩ := hQ3
  have N4 := Fr.app N0 N3q
  rw [show (own_f17) = (0 : Int32) from by first | rfl | decide | simp [own_f17]] at hv3
  subst hv3
  obtain ⟨fs, hr, hrun, hended, hW, hsame⟩ := X3.leave (hlocks := hlk) (v := some (.int (1 : Int32))) (fun h => by rw [Bd.returns] at h; cases h)
  refine ⟨_, _, pre0 _ ?_, hrun, hended, _, _, rfl, ?_, ⟨_, rfl⟩, hW, hsame.mono (by decide) (by decide)⟩
  · show Steps p.tables e below (s₁.setTop (mkF m 0 #[.val (.ref a1)] [])) _
    refine XS.aloadN X0.here hx rfl (hb hby own_d16_0) rfl rfl ?_
    show Steps p.tables e below (s₁.setTop (mkF m 1 #[.val (.ref a1)] [(.ref a1)])) _
    refine st1 _ ?_
    show Steps p.tables e below (T1.setTop (mkF m 4 #[.val (.ref a1)] [(.ref w_value_a1)])) _
    refine X1.arraylength hx (by rw [e1]; exact Ar2.1) (State.isArrayOf_alike hZ.alike Ar2.2.1) (g := (mkF m 4 #[.val (.ref a1)] [(.ref w_value_a1)])) rfl rfl (hb hby own_d16_4) _ ?_
    rw [len_of Sz2 Nn2]
    show Steps p.tables e below (T1.setTop (mkF m 5 #[.val (.ref a1)] [(.int (1 : Int32))])) _
    refine XS.aloadN X1.here hx rfl (hb hby own_d16_5) rfl rfl ?_
    show Steps p.tables e below (T1.setTop (mkF m 6 #[.val (.ref a1)] [(.ref a1), (.int (1 : Int32))])) _
    refine st3.trans ?_
    show Steps p.tables e below (T3.setTop (mkF m 9 #[.val (.ref a1)] [(.int (0 : Int32)), (.int (1 : Int32))])) _
    refine XS.ishr X3.here hx rfl (hb hby own_d16_9) rfl ?_
    show Steps p.tables e below (T3.setTop (mkF m 10 #[.val (.ref a1)] [(.int (1 : Int32))])) _
    exact retI X3 hx Bd.returns (hb hby own_d16_10) hr
  · show own_vA_Q16 Z a1 w_value_a1 k_w_value_a1 y0 w_COMPACT_STRINGS h0 n0 _ T3.heap _
    rw [e3]
    exact ⟨(by rw [own_vA_f16]), N4, rfl⟩
-- body 16, variant B
theorem own_vB_ef16 (m : MethodId) (x0 : Addr) : entryFrame m #[(.ref x0)] 1 = mkF m 0 #[.val (.ref x0)] [] := by first | (simp [entryFrame, mkF, argsToLocals, Value.category]; done) | rfl
def own_vB_f16 : Int32 := (2 : Int32)
def own_vB_Q16 (Z : State) (a1 : Addr) (w_value_a1 : Addr) (k_w_value_a1 : ClassId) (y0 : Int32) (y1 : Int32) (w_COMPACT_STRINGS : Int32) (h0 : Heap) (n0 : Nat) (v : Option Value) (h : Heap) (L : List Loc) : Prop := v = some (.int (own_vB_f16)) ∧ Fr n0 L ∧ h = h0
set_option maxRecDepth 65536 in
set_option maxHeartbeats 40000000 in
theorem own_vB_rm16 (l : Launch) (Z : State) (a0 : Array Value) (hw : ∀ d ∈ tables_1, d.before a0 Z = true) (ws : List Jvm.Cond) (a1 : Addr) (w_value_a1 : Addr) (k_w_value_a1 : ClassId) (y0 : Int32) (y1 : Int32) (w_COMPACT_STRINGS : Int32) (h0 : Heap) (n0 : Nat) (Z0 : n0 ≤ h0.size) (O0 : Old Z n0 h0) (V_w_value_a1 : Arv Z h0 w_value_a1 k_w_value_a1 .byte (2 : Int32) [(.int y0), (.int y1)] (.int (0 : Int32))) (hcs : ¬ w_COMPACT_STRINGS = (0 : Int32)) (F_value_a1 : Fld Z h0 a1 "java/lang/String" "value" "[B" (.ref w_value_a1)) (S_COMPACT_STRINGS : Sta Z Z.heap "java/lang/String" "COMPACT_STRINGS" "Z" (.int w_COMPACT_STRINGS)) (F_coder_a1 : Fld Z h0 a1 "java/lang/String" "coder" "B" (.int (0 : Int32))) (E_a1 : Exa Z h0 a1 "java/lang/String") :
    MetFree l (⟨"java/lang/String", "length", "()I"⟩ : MethodName) (head1 (Jvm.Cond.code (⟨"java/lang/String", "length", "()I"⟩ : MethodName) jdk_42_method_54_code 1 (some .int) :: ws) ({ frames := 1, cells := 0, slots := 0, locals := 13 } : Room)) (fun a U => a = #[(.ref a1)] ∧ Z.Warmed39 U.vm ∧ U.heap = h0) (fun _ _ _ _ _ => True) (fun _ U o U' => ∃ v L, o = .returned v ∧ own_vB_Q16 Z a1 w_value_a1 k_w_value_a1 y0 y1 w_COMPACT_STRINGS h0 n0 v U'.heap L ∧ FrameEnd U o U' L ({ frames := 1, cells := 0, slots := 0, locals := 13 } : Room).cells ({ frames := 1, cells := 0, slots := 0, locals := 13 } : Room).slots) := by
  refine MetFree.of_bodySF (plainFor_of_name own_pn79) hisR ?_
  intro p e s m args below meth c s₁ Bd hml0 hP hK
  obtain ⟨rfl, hZ, hh⟩ := hP
  have hx := Bd.exec
  have hby := Bd.bytes
  have hml : c.maxLocals = 1 := hml0
  have hown : s.vm.findClass "java/lang/String" = some m.cls := findClass_of_methodNamed Bd.named
  have hnm := (name_of_methodNamed Bd.named Bd.method).1
  have X0 : Stand p l e ({ frames := 1, cells := 0, slots := 0, locals := 13 } : Room) s m #[(.ref a1)] below meth c s₁ [] 0 0 := Stand.of_body Bd
  have hS0 : s.Since s.vm 0 := (State.WarmedH.refl s).since 0
  have hk0 : 0 ≤ h0.size := Nat.zero_le _
  have hlk := Bd.notSynchronized
  have e0 : s₁.heap = h0 := by rw [← hh, Bd.state]; rfl
  have N0 := Fr.nil n0
  have pre0 : ∀ t, Steps p.tables e below (s₁.setTop (mkF m 0 #[.val (.ref a1)] [])) t → Steps p.tables e below (s₁.setTop (entryFrame m #[(.ref a1)] 1)) t := fun t k => castTop (own_vB_ef16 m a1) k
  obtain ⟨T1, X1, e1, st1⟩ := getF X0 hx hZ hown (host := "") (Or.inl (hw _ (List.mem_of_getElem? (i := 41) rfl))) Via.refl e0 F_value_a1 (g := (mkF m 1 #[.val (.ref a1)] [(.ref a1)])) rfl rfl (hb hby own_d16_1)
  obtain ⟨cl2, Ar2, qk2, Sz2, Nn2, Hs2, Gf2⟩ := id V_w_value_a1
  obtain ⟨cq3, kq3, q3a, q3b, q3c⟩ := isOf hZ e1 E_a1
  obtain ⟨v3, _, ⟨T3, L3, k3, n3⟩, -, X3, ⟨Lc3, hQ3, l3, y3, z3⟩, st3⟩ := X1.virtualBack hx (y := (⟨"java/lang/String", "coder", "()B"⟩ : MethodName)) (z := (⟨"java/lang/String", "coder", "()B"⟩ : MethodName)) hown (mvT hZ (hw _ (List.mem_of_getElem? (i := 73) rfl))) (mvT hZ (hw _ (List.mem_of_getElem? (i := 74) rfl))) (notFace_of_selects (args := #[]) (mvT hZ (hw _ (List.mem_of_getElem? (i := 76) rfl)))) (mvT hZ (hw _ (List.mem_of_getElem? (i := 76) rfl))) (mvT hZ (hw _ (List.mem_of_getElem? (i := 75) rfl))) (by decide) (backOf (W := 1) (own_rm17 l Z a0 hw [] a1 w_COMPACT_STRINGS h0 n0 Z0 O0 hcs S_COMPACT_STRINGS F_coder_a1) hZ (hw _ (List.mem_of_getElem? (i := 77) rfl)) (hw _ (List.mem_of_getElem? (i := 16) rfl)) (by decide) (by decide)) q3a q3c (g := (mkF m 6 #[.val (.ref a1)] [(.ref a1), (.int (2 : Int32))])) rfl (by rw [hml]; rfl) (Steps.refl _) (argsL := []) (rest := [(.int (2 : Int32))]) (lenOf own_pd163 rfl) rfl (by show 2 * 0 + _ ≤ _; exact Nat.le_of_eq rfl) (hb hby own_d16_6) (fun _ _ => ⟨rfl, e1, (by decide : 0 + 0 ≤ _), (by decide : 0 + 0 ≤ _)⟩)
  dsimp only [Pt.U, Pt.locs, Pt.cells, Pt.slots] at X3 l3 y3 z3 st3 hQ3
  subst l3 y3 z3
  obtain ⟨hv3, N3q, e3⟩ := hQ3
  have N4 := Fr.app N0 N3q
  rw [show (own_f17) = (0 : Int32) from by first | rfl | decide | simp [own_f17]] at hv3
  subst hv3
  obtain ⟨fs, hr, hrun, hended, hW, hsame⟩ := X3.leave (hlocks := hlk) (v := some (.int (2 : Int32))) (fun h => by rw [Bd.returns] at h; cases h)
  refine ⟨_, _, pre0 _ ?_, hrun, hended, _, _, rfl, ?_, ⟨_, rfl⟩, hW, hsame.mono (by decide) (by decide)⟩
  · show Steps p.tables e below (s₁.setTop (mkF m 0 #[.val (.ref a1)] [])) _
    refine XS.aloadN X0.here hx rfl (hb hby own_d16_0) rfl rfl ?_
    show Steps p.tables e below (s₁.setTop (mkF m 1 #[.val (.ref a1)] [(.ref a1)])) _
    refine st1 _ ?_
    show Steps p.tables e below (T1.setTop (mkF m 4 #[.val (.ref a1)] [(.ref w_value_a1)])) _
    refine X1.arraylength hx (by rw [e1]; exact Ar2.1) (State.isArrayOf_alike hZ.alike Ar2.2.1) (g := (mkF m 4 #[.val (.ref a1)] [(.ref w_value_a1)])) rfl rfl (hb hby own_d16_4) _ ?_
    rw [len_of Sz2 Nn2]
    show Steps p.tables e below (T1.setTop (mkF m 5 #[.val (.ref a1)] [(.int (2 : Int32))])) _
    refine XS.aloadN X1.here hx rfl (hb hby own_d16_5) rfl rfl ?_
    show Steps p.tables e below (T1.setTop (mkF m 6 #[.val (.ref a1)] [(.ref a1), (.int (2 : Int32))])) _
    refine st3.trans ?_
    show Steps p.tables e below (T3.setTop (mkF m 9 #[.val (.ref a1)] [(.int (0 : Int32)), (.int (2 : Int32))])) _
    refine XS.ishr X3.here hx rfl (hb hby own_d16_9) rfl ?_
    show Steps p.tables e below (T3.setTop (mkF m 10 #[.val (.ref a1)] [(.int (2 : Int32))])) _
    exact retI X3 hx Bd.returns (hb hby own_d16_10) hr
  · show own_vB_Q16 Z a1 w_value_a1 k_w_value_a1 y0 y1 w_COMPACT_STRINGS h0 n0 _ T3.heap _
    rw [e3]
    exact ⟨(by rw [own_vB_f16]), N4, rfl⟩
-- body 14, variant A
theorem own_d14_0 : decode jdk_42_method_55_code 0 = .ok (.aload_n 0, 1) := by decide +kernel
theorem own_d14_1 : decode jdk_42_method_55_code 1 = .ok (.getfield 9, 3) := by decide +kernel
theorem own_d14_4 : decode jdk_42_method_55_code 4 = .ok (.arraylength, 1) := by decide +kernel
theorem own_d14_5 : decode jdk_42_method_55_code 5 = .ok (.ifCond .ne 7, 3) := by decide +kernel
theorem own_d14_12 : decode jdk_42_method_55_code 12 = .ok (.iconst 0, 1) := by decide +kernel
theorem own_d14_13 : decode jdk_42_method_55_code 13 = .ok (.ireturn, 1) := by decide +kernel
theorem own_vA_ef14 (m : MethodId) (x0 : Addr) : entryFrame m #[(.ref x0)] 1 = mkF m 0 #[.val (.ref x0)] [] := by first | (simp [entryFrame, mkF, argsToLocals, Value.category]; done) | rfl
def own_vA_f14 : Int32 := (0 : Int32)
def own_vA_Q14 (Z : State) (a1 : Addr) (w_value_a1 : Addr) (k_w_value_a1 : ClassId) (y0 : Int32) (h0 : Heap) (n0 : Nat) (v : Option Value) (h : Heap) (L : List Loc) : Prop := v = some (.int (own_vA_f14)) ∧ Fr n0 L ∧ h = h0
set_option maxRecDepth 65536 in
set_option maxHeartbeats 40000000 in
theorem own_vA_rm14 (l : Launch) (Z : State) (a0 : Array Value) (hw : ∀ d ∈ tables_1, d.before a0 Z = true) (ws : List Jvm.Cond) (a1 : Addr) (w_value_a1 : Addr) (k_w_value_a1 : ClassId) (y0 : Int32) (h0 : Heap) (n0 : Nat) (Z0 : n0 ≤ h0.size) (V_w_value_a1 : Arv Z h0 w_value_a1 k_w_value_a1 .byte (1 : Int32) [(.int y0)] (.int (0 : Int32))) (F_value_a1 : Fld Z h0 a1 "java/lang/String" "value" "[B" (.ref w_value_a1)) :
    MetFree l (⟨"java/lang/String", "isEmpty", "()Z"⟩ : MethodName) (head1 (Jvm.Cond.code (⟨"java/lang/String", "isEmpty", "()Z"⟩ : MethodName) jdk_42_method_55_code 1 (some .boolean) :: ws) ({ frames := 0, cells := 0, slots := 0, locals := 0 } : Room)) (fun a U => a = #[(.ref a1)] ∧ Z.Warmed39 U.vm ∧ U.heap = h0) (fun _ _ _ _ _ => True) (fun _ U o U' => ∃ v L, o = .returned v ∧ own_vA_Q14 Z a1 w_value_a1 k_w_value_a1 y0 h0 n0 v U'.heap L ∧ FrameEnd U o U' L ({ frames := 0, cells := 0, slots := 0, locals := 0 } : Room).cells ({ frames := 0, cells := 0, slots := 0, locals := 0 } : Room).slots) := by
  refine MetFree.of_bodySF (plainFor_of_name own_pn79) hisR ?_
  intro p e s m args below meth c s₁ Bd hml0 hP hK
  obtain ⟨rfl, hZ, hh⟩ := hP
  have hx := Bd.exec
  have hby := Bd.bytes
  have hml : c.maxLocals = 1 := hml0
  have hown : s.vm.findClass "java/lang/String" = some m.cls := findClass_of_methodNamed Bd.named
  have hnm := (name_of_methodNamed Bd.named Bd.method).1
  have X0 : Stand p l e ({ frames := 0, cells := 0, slots := 0, locals := 0 } : Room) s m #[(.ref a1)] below meth c s₁ [] 0 0 := Stand.of_body Bd
  have hS0 : s.Since s.vm 0 := (State.WarmedH.refl s).since 0
  have hk0 : 0 ≤ h0.size := Nat.zero_le _
  have hlk := Bd.notSynchronized
  have e0 : s₁.heap = h0 := by rw [← hh, Bd.state]; rfl
  have N0 := Fr.nil n0
  have pre0 : ∀ t, Steps p.tables e below (s₁.setTop (mkF m 0 #[.val (.ref a1)] [])) t → Steps p.tables e below (s₁.setTop (entryFrame m #[(.ref a1)] 1)) t := fun t k => castTop (own_vA_ef14 m a1) k
  obtain ⟨T1, X1, e1, st1⟩ := getF X0 hx hZ hown (host := "") (Or.inl (hw _ (List.mem_of_getElem? (i := 41) rfl))) Via.refl e0 F_value_a1 (g := (mkF m 1 #[.val (.ref a1)] [(.ref a1)])) rfl rfl (hb hby own_d14_1)
  obtain ⟨cl2, Ar2, qk2, Sz2, Nn2, Hs2, Gf2⟩ := id V_w_value_a1
  obtain ⟨fs, hr, hrun, hended, hW, hsame⟩ := X1.leave (hlocks := hlk) (v := some (.int (0 : Int32))) (fun h => by rw [Bd.returns] at h; cases h)
  refine ⟨_, _, pre0 _ ?_, hrun, hended, _, _, rfl, ?_, ⟨_, rfl⟩, hW, hsame.mono (by decide) (by decide)⟩
  · show Steps p.tables e below (s₁.setTop (mkF m 0 #[.val (.ref a1)] [])) _
    refine XS.aloadN X0.here hx rfl (hb hby own_d14_0) rfl rfl ?_
    show Steps p.tables e below (s₁.setTop (mkF m 1 #[.val (.ref a1)] [(.ref a1)])) _
    refine st1 _ ?_
    show Steps p.tables e below (T1.setTop (mkF m 4 #[.val (.ref a1)] [(.ref w_value_a1)])) _
    refine X1.arraylength hx (by rw [e1]; exact Ar2.1) (State.isArrayOf_alike hZ.alike Ar2.2.1) (g := (mkF m 4 #[.val (.ref a1)] [(.ref w_value_a1)])) rfl rfl (hb hby own_d14_4) _ ?_
    rw [len_of Sz2 Nn2]
    show Steps p.tables e below (T1.setTop (mkF m 5 #[.val (.ref a1)] [(.int (1 : Int32))])) _
    refine XS.ifYes X1.here hx rfl (pc0 := 5) (pc' := 12) rfl (hb hby own_d14_5) rfl ((if0 _ _).trans (feq (by decide : ¬ ((1 : Int32) = (0 : Int32)))).2) (by decide) (by decide) ?_
    show Steps p.tables e below (T1.setTop (mkF m 12 #[.val (.ref a1)] [])) _
    refine XS.iconst X1.here hx rfl (hb hby own_d14_12) ?_
    show Steps p.tables e below (T1.setTop (mkF m 13 #[.val (.ref a1)] [(.int (0 : Int32))])) _
    exact retN X1 hx (t := .boolean) Bd.returns (by simp) (hb hby own_d14_13) hr
  · show own_vA_Q14 Z a1 w_value_a1 k_w_value_a1 y0 h0 n0 _ T1.heap _
    rw [e1]
    exact ⟨(by rw [own_vA_f14]), N0, rfl⟩
-- body 14, variant B
theorem own_vB_ef14 (m : MethodId) (x0 : Addr) : entryFrame m #[(.ref x0)] 1 = mkF m 0 #[.val (.ref x0)] [] := by first | (simp [entryFrame, mkF, argsToLocals, Value.category]; done) | rfl
def own_vB_f14 : Int32 := (0 : Int32)
def own_vB_Q14 (Z : State) (a1 : Addr) (w_value_a1 : Addr) (k_w_value_a1 : ClassId) (y0 : Int32) (y1 : Int32) (h0 : Heap) (n0 : Nat) (v : Option Value) (h : Heap) (L : List Loc) : Prop := v = some (.int (own_vB_f14)) ∧ Fr n0 L ∧ h = h0
set_option maxRecDepth 65536 in
set_option maxHeartbeats 40000000 in
theorem own_vB_rm14 (l : Launch) (Z : State) (a0 : Array Value) (hw : ∀ d ∈ tables_1, d.before a0 Z = true) (ws : List Jvm.Cond) (a1 : Addr) (w_value_a1 : Addr) (k_w_value_a1 : ClassId) (y0 : Int32) (y1 : Int32) (h0 : Heap) (n0 : Nat) (Z0 : n0 ≤ h0.size) (V_w_value_a1 : Arv Z h0 w_value_a1 k_w_value_a1 .byte (2 : Int32) [(.int y0), (.int y1)] (.int (0 : Int32))) (F_value_a1 : Fld Z h0 a1 "java/lang/String" "value" "[B" (.ref w_value_a1)) :
    MetFree l (⟨"java/lang/String", "isEmpty", "()Z"⟩ : MethodName) (head1 (Jvm.Cond.code (⟨"java/lang/String", "isEmpty", "()Z"⟩ : MethodName) jdk_42_method_55_code 1 (some .boolean) :: ws) ({ frames := 0, cells := 0, slots := 0, locals := 0 } : Room)) (fun a U => a = #[(.ref a1)] ∧ Z.Warmed39 U.vm ∧ U.heap = h0) (fun _ _ _ _ _ => True) (fun _ U o U' => ∃ v L, o = .returned v ∧ own_vB_Q14 Z a1 w_value_a1 k_w_value_a1 y0 y1 h0 n0 v U'.heap L ∧ FrameEnd U o U' L ({ frames := 0, cells := 0, slots := 0, locals := 0 } : Room).cells ({ frames := 0, cells := 0, slots := 0, locals := 0 } : Room).slots) := by
  refine MetFree.of_bodySF (plainFor_of_name own_pn79) hisR ?_
  intro p e s m args below meth c s₁ Bd hml0 hP hK
  obtain ⟨rfl, hZ, hh⟩ := hP
  have hx := Bd.exec
  have hby := Bd.bytes
  have hml : c.maxLocals = 1 := hml0
  have hown : s.vm.findClass "java/lang/String" = some m.cls := findClass_of_methodNamed Bd.named
  have hnm := (name_of_methodNamed Bd.named Bd.method).1
  have X0 : Stand p l e ({ frames := 0, cells := 0, slots := 0, locals := 0 } : Room) s m #[(.ref a1)] below meth c s₁ [] 0 0 := Stand.of_body Bd
  have hS0 : s.Since s.vm 0 := (State.WarmedH.refl s).since 0
  have hk0 : 0 ≤ h0.size := Nat.zero_le _
  have hlk := Bd.notSynchronized
  have e0 : s₁.heap = h0 := by rw [← hh, Bd.state]; rfl
  have N0 := Fr.nil n0
  have pre0 : ∀ t, Steps p.tables e below (s₁.setTop (mkF m 0 #[.val (.ref a1)] [])) t → Steps p.tables e below (s₁.setTop (entryFrame m #[(.ref a1)] 1)) t := fun t k => castTop (own_vB_ef14 m a1) k
  obtain ⟨T1, X1, e1, st1⟩ := getF X0 hx hZ hown (host := "") (Or.inl (hw _ (List.mem_of_getElem? (i := 41) rfl))) Via.refl e0 F_value_a1 (g := (mkF m 1 #[.val (.ref a1)] [(.ref a1)])) rfl rfl (hb hby own_d14_1)
  obtain ⟨cl2, Ar2, qk2, Sz2, Nn2, Hs2, Gf2⟩ := id V_w_value_a1
  obtain ⟨fs, hr, hrun, hended, hW, hsame⟩ := X1.leave (hlocks := hlk) (v := some (.int (0 : Int32))) (fun h => by rw [Bd.returns] at h; cases h)
  refine ⟨_, _, pre0 _ ?_, hrun, hended, _, _, rfl, ?_, ⟨_, rfl⟩, hW, hsame.mono (by decide) (by decide)⟩
  · show Steps p.tables e below (s₁.setTop (mkF m 0 #[.val (.ref a1)] [])) _
    refine XS.aloadN X0.here hx rfl (hb hby own_d14_0) rfl rfl ?_
    show Steps p.tables e below (s₁.setTop (mkF m 1 #[.val (.ref a1)] [(.ref a1)])) _
    refine st1 _ ?_
    show Steps p.tables e below (T1.setTop (mkF m 4 #[.val (.ref a1)] [(.ref w_value_a1)])) _
    refine X1.arraylength hx (by rw [e1]; exact Ar2.1) (State.isArrayOf_alike hZ.alike Ar2.2.1) (g := (mkF m 4 #[.val (.ref a1)] [(.ref w_value_a1)])) rfl rfl (hb hby own_d14_4) _ ?_
    rw [len_of Sz2 Nn2]
    show Steps p.tables e below (T1.setTop (mkF m 5 #[.val (.ref a1)] [(.int (2 : Int32))])) _
    refine XS.ifYes X1.here hx rfl (pc0 := 5) (pc' := 12) rfl (hb hby own_d14_5) rfl ((if0 _ _).trans (feq (by decide : ¬ ((2 : Int32) = (0 : Int32)))).2) (by decide) (by decide) ?_
    show Steps p.tables e below (T1.setTop (mkF m 12 #[.val (.ref a1)] [])) _
    refine XS.iconst X1.here hx rfl (hb hby own_d14_12) ?_
    show Steps p.tables e below (T1.setTop (mkF m 13 #[.val (.ref a1)] [(.int (0 : Int32))])) _
    exact retN X1 hx (t := .boolean) Bd.returns (by simp) (hb hby own_d14_13) hr
  · show own_vB_Q14 Z a1 w_value_a1 k_w_value_a1 y0 y1 h0 n0 _ T1.heap _
    rw [e1]
    exact ⟨(by rw [own_vB_f14]), N0, rfl⟩
-- body 22, variant N
theorem own_d22_0 : decode jdk_41_method_11_code 0 = .ok (.iload_n 0, 1) := by decide +kernel
theorem own_d22_1 : decode jdk_41_method_11_code 1 = .ok (.ifCond .lt 8, 3) := by decide +kernel
theorem own_d22_4 : decode jdk_41_method_11_code 4 = .ok (.iload_n 0, 1) := by decide +kernel
theorem own_d22_5 : decode jdk_41_method_11_code 5 = .ok (.iload_n 1, 1) := by decide +kernel
theorem own_d22_6 : decode jdk_41_method_11_code 6 = .ok (.if_icmp .lt 10, 3) := by decide +kernel
theorem own_d22_16 : decode jdk_41_method_11_code 16 = .ok (.iload_n 0, 1) := by decide +kernel
theorem own_d22_17 : decode jdk_41_method_11_code 17 = .ok (.ireturn, 1) := by decide +kernel
theorem own_vN_ef22 (m : MethodId) (x0 : Int32) (x1 : Int32) : entryFrame m #[(.int x0), (.int x1), .null] 3 = mkF m 0 #[.val (.int x0), .val (.int x1), .val .null] [] := by first | (simp [entryFrame, mkF, argsToLocals, Value.category]; done) | rfl
def own_vN_f22 (p1 : Int32) : Int32 := p1
def own_vN_Q22 (Z : State) (p1 : Int32) (p2 : Int32) (h0 : Heap) (n0 : Nat) (v : Option Value) (h : Heap) (L : List Loc) : Prop := v = some (.int (own_vN_f22 p1)) ∧ Fr n0 L ∧ h = h0
set_option maxRecDepth 65536 in
set_option maxHeartbeats 40000000 in
theorem own_vN_rm22 (l : Launch) (Z : State) (a0 : Array Value) (hw : ∀ d ∈ tables_1, d.before a0 Z = true) (ws : List Jvm.Cond) (p1 : Int32) (p2 : Int32) (h0 : Heap) (n0 : Nat) (Z0 : n0 ≤ h0.size) (hi1 : ¬ p1 < (0 : Int32)) (hi2 : p1 < p2) :
    MetFree l (⟨"jdk/internal/util/Preconditions", "checkIndex", "(IILjava/util/function/BiFunction;)I"⟩ : MethodName) (head1 (Jvm.Cond.code (⟨"jdk/internal/util/Preconditions", "checkIndex", "(IILjava/util/function/BiFunction;)I"⟩ : MethodName) jdk_41_method_11_code 3 (some .int) :: ws) ({ frames := 0, cells := 0, slots := 0, locals := 0 } : Room)) (fun a U => a = #[(.int p1), (.int p2), .null] ∧ Z.Warmed39 U.vm ∧ U.heap = h0) (fun _ _ _ _ _ => True) (fun _ U o U' => ∃ v L, o = .returned v ∧ own_vN_Q22 Z p1 p2 h0 n0 v U'.heap L ∧ FrameEnd U o U' L ({ frames := 0, cells := 0, slots := 0, locals := 0 } : Room).cells ({ frames := 0, cells := 0, slots := 0, locals := 0 } : Room).slots) := by
  refine MetFree.of_bodySF (plainFor_of_name own_pn177) hisR ?_
  intro p e s m args below meth c s₁ Bd hml0 hP hK
  obtain ⟨rfl, hZ, hh⟩ := hP
  have hx := Bd.exec
  have hby := Bd.bytes
  have hml : c.maxLocals = 3 := hml0
  have hown : s.vm.findClass "jdk/internal/util/Preconditions" = some m.cls := findClass_of_methodNamed Bd.named
  have hnm := (name_of_methodNamed Bd.named Bd.method).1
  have X0 : Stand p l e ({ frames := 0, cells := 0, slots := 0, locals := 0 } : Room) s m #[(.int p1), (.int p2), .null] below meth c s₁ [] 0 0 := Stand.of_body Bd
  have hS0 : s.Since s.vm 0 := (State.WarmedH.refl s).since 0
  have hk0 : 0 ≤ h0.size := Nat.zero_le _
  have hlk := Bd.notSynchronized
  have e0 : s₁.heap = h0 := by rw [← hh, Bd.state]; rfl
  have N0 := Fr.nil n0
  have pre0 : ∀ t, Steps p.tables e below (s₁.setTop (mkF m 0 #[.val (.int p1), .val (.int p2), .val .null] [])) t → Steps p.tables e below (s₁.setTop (entryFrame m #[(.int p1), (.int p2), .null] 3)) t := fun t k => castTop (own_vN_ef22 m p1 p2) k
  obtain ⟨fs, hr, hrun, hended, hW, hsame⟩ := X0.leave (hlocks := hlk) (v := some (.int p1)) (fun h => by rw [Bd.returns] at h; cases h)
  refine ⟨_, _, pre0 _ ?_, hrun, hended, _, _, rfl, ?_, ⟨_, rfl⟩, hW, hsame.mono (by decide) (by decide)⟩
  · show Steps p.tables e below (s₁.setTop (mkF m 0 #[.val (.int p1), .val (.int p2), .val .null] [])) _
    refine XS.iloadN X0.here hx rfl (hb hby own_d22_0) rfl ?_
    show Steps p.tables e below (s₁.setTop (mkF m 1 #[.val (.int p1), .val (.int p2), .val .null] [(.int p1)])) _
    refine XS.ifNo X0.here hx rfl (hb hby own_d22_1) rfl ((if0 _ _).trans (flt hi1).1) ?_
    show Steps p.tables e below (s₁.setTop (mkF m 4 #[.val (.int p1), .val (.int p2), .val .null] [])) _
    refine XS.iloadN X0.here hx rfl (hb hby own_d22_4) rfl ?_
    show Steps p.tables e below (s₁.setTop (mkF m 5 #[.val (.int p1), .val (.int p2), .val .null] [(.int p1)])) _
    refine XS.iloadN X0.here hx rfl (hb hby own_d22_5) rfl ?_
    show Steps p.tables e below (s₁.setTop (mkF m 6 #[.val (.int p1), .val (.int p2), .val .null] [(.int p2), (.int p1)])) _
    refine XS.icmpYes X0.here hx rfl (pc0 := 6) (pc' := 16) rfl (hb hby own_d22_6) rfl (tlt hi2).1 (by decide) (by decide) ?_
    show Steps p.tables e below (s₁.setTop (mkF m 16 #[.val (.int p1), .val (.int p2), .val .null] [])) _
    refine XS.iloadN X0.here hx rfl (hb hby own_d22_16) rfl ?_
    show Steps p.tables e below (s₁.setTop (mkF m 17 #[.val (.int p1), .val (.int p2), .val .null] [(.int p1)])) _
    exact retI X0 hx Bd.returns (hb hby own_d22_17) hr
  · show own_vN_Q22 Z p1 p2 h0 n0 _ s₁.heap _
    rw [e0]
    exact ⟨(by rw [own_vN_f22]), N0, rfl⟩
-- body 22, variant R
theorem own_vR_ef22 (m : MethodId) (x0 : Int32) (x1 : Int32) (x2 : Addr) : entryFrame m #[(.int x0), (.int x1), (.ref x2)] 3 = mkF m 0 #[.val (.int x0), .val (.int x1), .val (.ref x2)] [] := by first | (simp [entryFrame, mkF, argsToLocals, Value.category]; done) | rfl
def own_vR_f22 (p1 : Int32) : Int32 := p1
def own_vR_Q22 (Z : State) (p1 : Int32) (p2 : Int32) (a3 : Addr) (h0 : Heap) (n0 : Nat) (v : Option Value) (h : Heap) (L : List Loc) : Prop := v = some (.int (own_vR_f22 p1)) ∧ Fr n0 L ∧ h = h0
set_option maxRecDepth 65536 in
set_option maxHeartbeats 40000000 in
theorem own_vR_rm22 (l : Launch) (Z : State) (a0 : Array Value) (hw : ∀ d ∈ tables_1, d.before a0 Z = true) (ws : List Jvm.Cond) (p1 : Int32) (p2 : Int32) (a3 : Addr) (h0 : Heap) (n0 : Nat) (Z0 : n0 ≤ h0.size) (hi1 : ¬ p1 < (0 : Int32)) (hi2 : p1 < p2) :
    MetFree l (⟨"jdk/internal/util/Preconditions", "checkIndex", "(IILjava/util/function/BiFunction;)I"⟩ : MethodName) (head1 (Jvm.Cond.code (⟨"jdk/internal/util/Preconditions", "checkIndex", "(IILjava/util/function/BiFunction;)I"⟩ : MethodName) jdk_41_method_11_code 3 (some .int) :: ws) ({ frames := 0, cells := 0, slots := 0, locals := 0 } : Room)) (fun a U => a = #[(.int p1), (.int p2), (.ref a3)] ∧ Z.Warmed39 U.vm ∧ U.heap = h0) (fun _ _ _ _ _ => True) (fun _ U o U' => ∃ v L, o = .returned v ∧ own_vR_Q22 Z p1 p2 a3 h0 n0 v U'.heap L ∧ FrameEnd U o U' L ({ frames := 0, cells := 0, slots := 0, locals := 0 } : Room).cells ({ frames := 0, cells := 0, slots := 0, locals := 0 } : Room).slots) := by
  refine MetFree.of_bodySF (plainFor_of_name own_pn177) hisR ?_
  intro p e s m args below meth c s₁ Bd hml0 hP hK
  obtain ⟨rfl, hZ, hh⟩ := hP
  have hx := Bd.exec
  have hby := Bd.bytes
  have hml : c.maxLocals = 3 := hml0
  have hown : s.vm.findClass "jdk/internal/util/Preconditions" = some m.cls := findClass_of_methodNamed Bd.named
  have hnm := (name_of_methodNamed Bd.named Bd.method).1
  have X0 : Stand p l e ({ frames := 0, cells := 0, slots := 0, locals := 0 } : Room) s m #[(.int p1), (.int p2), (.ref a3)] below meth c s₁ [] 0 0 := Stand.of_body Bd
  have hS0 : s.Since s.vm 0 := (State.WarmedH.refl s).since 0
  have hk0 : 0 ≤ h0.size := Nat.zero_le _
  have hlk := Bd.notSynchronized
  have e0 : s₁.heap = h0 := by rw [← hh, Bd.state]; rfl
  have N0 := Fr.nil n0
  have pre0 : ∀ t, Steps p.tables e below (s₁.setTop (mkF m 0 #[.val (.int p1), .val (.int p2), .val (.ref a3)] [])) t → Steps p.tables e below (s₁.setTop (entryFrame m #[(.int p1), (.int p2), (.ref a3)] 3)) t := fun t k => castTop (own_vR_ef22 m p1 p2 a3) k
  obtain ⟨fs, hr, hrun, hended, hW, hsame⟩ := X0.leave (hlocks := hlk) (v := some (.int p1)) (fun h => by rw [Bd.returns] at h; cases h)
  refine ⟨_, _, pre0 _ ?_, hrun, hended, _, _, rfl, ?_, ⟨_, rfl⟩, hW, hsame.mono (by decide) (by decide)⟩
  · show Steps p.tables e below (s₁.setTop (mkF m 0 #[.val (.int p1), .val (.int p2), .val (.ref a3)] [])) _
    refine XS.iloadN X0.here hx rfl (hb hby own_d22_0) rfl ?_
    show Steps p.tables e below (s₁.setTop (mkF m 1 #[.val (.int p1), .val (.int p2), .val (.ref a3)] [(.int p1)])) _
    refine XS.ifNo X0.here hx rfl (hb hby own_d22_1) rfl ((if0 _ _).trans (flt hi1).1) ?_
    show Steps p.tables e below (s₁.setTop (mkF m 4 #[.val (.int p1), .val (.int p2), .val (.ref a3)] [])) _
    refine XS.iloadN X0.here hx rfl (hb hby own_d22_4) rfl ?_
    show Steps p.tables e below (s₁.setTop (mkF m 5 #[.val (.int p1), .val (.int p2), .val (.ref a3)] [(.int p1)])) _
    refine XS.iloadN X0.here hx rfl (hb hby own_d22_5) rfl ?_
    show Steps p.tables e below (s₁.setTop (mkF m 6 #[.val (.int p1), .val (.int p2), .val (.ref a3)] [(.int p2), (.int p1)])) _
    refine XS.icmpYes X0.here hx rfl (pc0 := 6) (pc' := 16) rfl (hb hby own_d22_6) rfl (tlt hi2).1 (by decide) (by decide) ?_
    show Steps p.tables e below (s₁.setTop (mkF m 16 #[.val (.int p1), .val (.int p2), .val (.ref a3)] [])) _
    refine XS.iloadN X0.here hx rfl (hb hby own_d22_16) rfl ?_
    show Steps p.tables e below (s₁.setTop (mkF m 17 #[.val (.int p1), .val (.int p2), .val (.ref a3)] [(.int p1)])) _
    exact retI X0 hx Bd.returns (hb hby own_d22_17) hr
  · show own_vR_Q22 Z p1 p2 a3 h0 n0 _ s₁.heap _
    rw [e0]
    exact ⟨(by rw [own_vR_f22]), N0, rfl⟩
-- body 21, variant N
theorem own_d21_0 : decode jdk_42_method_155_code 0 = .ok (.iload_n 0, 1) := by decide +kernel
theorem own_d21_1 : decode jdk_42_method_155_code 1 = .ok (.iload_n 1, 1) := by decide +kernel
theorem own_d21_2 : decode jdk_42_method_155_code 2 = .ok (.getstatic 1053, 3) := by decide +kernel
theorem own_d21_5 : decode jdk_42_method_155_code 5 = .ok (.invokestatic 1059, 3) := by decide +kernel
theorem own_d21_8 : decode jdk_42_method_155_code 8 = .ok (.pop, 1) := by decide +kernel
theorem own_d21_9 : decode jdk_42_method_155_code 9 = .ok (.return_, 1) := by decide +kernel
theorem own_vN_ef21 (m : MethodId) (x0 : Int32) (x1 : Int32) : entryFrame m #[(.int x0), (.int x1)] 2 = mkF m 0 #[.val (.int x0), .val (.int x1)] [] := by first | (simp [entryFrame, mkF, argsToLocals, Value.category]; done) | rfl
def own_vN_Q21 (Z : State) (p1 : Int32) (p2 : Int32) (h0 : Heap) (n0 : Nat) (v : Option Value) (h : Heap) (L : List Loc) : Prop := v = none ∧ Fr n0 L ∧ h = h0
set_option maxRecDepth 65536 in
set_option maxHeartbeats 40000000 in
theorem own_vN_rm21 (l : Launch) (Z : State) (a0 : Array Value) (hw : ∀ d ∈ tables_1, d.before a0 Z = true) (ws : List Jvm.Cond) (p1 : Int32) (p2 : Int32) (h0 : Heap) (n0 : Nat) (Z0 : n0 ≤ h0.size) (O0 : Old Z n0 h0) (hi1 : ¬ p1 < (0 : Int32)) (hi2 : p1 < p2) (S_SIOOBE_FORMATTER : Sta Z Z.heap "jdk/internal/util/Preconditions" "SIOOBE_FORMATTER" "Ljava/util/function/BiFunction;" .null) :
    MetFree l (⟨"java/lang/String", "checkIndex", "(II)V"⟩ : MethodName) (head1 (Jvm.Cond.code (⟨"java/lang/String", "checkIndex", "(II)V"⟩ : MethodName) jdk_42_method_155_code 2 none :: ws) ({ frames := 1, cells := 0, slots := 0, locals := 14 } : Room)) (fun a U => a = #[(.int p1), (.int p2)] ∧ Z.Warmed39 U.vm ∧ U.heap = h0) (fun _ _ _ _ _ => True) (fun _ U o U' => ∃ v L, o = .returned v ∧ own_vN_Q21 Z p1 p2 h0 n0 v U'.heap L ∧ FrameEnd U o U' L ({ frames := 1, cells := 0, slots := 0, locals := 14 } : Room).cells ({ frames := 1, cells := 0, slots := 0, locals := 14 } : Room).slots) := by
  refine MetFree.of_bodySF (plainFor_of_name own_pn79) hisR ?_
  intro p e s m args below meth c s₁ Bd hml0 hP hK
  obtain ⟨rfl, hZ, hh⟩ := hP
  have hx := Bd.exec
  have hby := Bd.bytes
  have hml : c.maxLocals = 2 := hml0
  have hown : s.vm.findClass "java/lang/String" = some m.cls := findClass_of_methodNamed Bd.named
  have hnm := (name_of_methodNamed Bd.named Bd.method).1
  have X0 : Stand p l e ({ frames := 1, cells := 0, slots := 0, locals := 14 } : Room) s m #[(.int p1), (.int p2)] below meth c s₁ [] 0 0 := Stand.of_body Bd
  have hS0 : s.Since s.vm 0 := (State.WarmedH.refl s).since 0
  have hk0 : 0 ≤ h0.size := Nat.zero_le _
  have hlk := Bd.notSynchronized
  have e0 : s₁.heap = h0 := by rw [← hh, Bd.state]; rfl
  have N0 := Fr.nil n0
  have pre0 : ∀ t, Steps p.tables e below (s₁.setTop (mkF m 0 #[.val (.int p1), .val (.int p2)] [])) t → Steps p.tables e below (s₁.setTop (entryFrame m #[(.int p1), (.int p2)] 2)) t := fun t k => castTop (own_vN_ef21 m p1 p2) k
  obtain ⟨T1, X1, e1, st1⟩ := getS2 X0 hx hZ hown (host := "") (Or.inl (hw _ (List.mem_of_getElem? (i := 95) rfl))) Via.refl e0 (S_SIOOBE_FORMATTER.ext O0.2) (g := (mkF m 2 #[.val (.int p1), .val (.int p2)] [(.int p2), (.int p1)])) rfl (hb hby own_d21_2)
  obtain ⟨v2, _, ⟨T2, L2, k2, n2⟩, -, X2, ⟨Lc2, hQ2, l2, y2, z2⟩, st2⟩ := Jvm.LawKit.callS X1 hx (y := (⟨"jdk/internal/util/Preconditions", "checkIndex", "(IILjava/util/function/BiFunction;)I"⟩ : MethodName)) hown (mvT hZ (hw _ (List.mem_of_getElem? (i := 97) rfl))) (mvT hZ (hw _ (List.mem_of_getElem? (i := 98) rfl))) (mvT hZ (hw _ (List.mem_of_getElem? (i := 96) rfl))) (mvT hZ (hw _ (List.mem_of_getElem? (i := 99) rfl))) (by decide) (backOf (W := 0) (own_vN_rm22 l Z a0 hw [] p1 p2 h0 n0 Z0 hi1 hi2) hZ (hw _ (List.mem_of_getElem? (i := 99) rfl)) (hw _ (List.mem_of_getElem? (i := 96) rfl)) (by decide) (by decide)) (g := (mkF m 5 #[.val (.int p1), .val (.int p2)] [.null, (.int p2), (.int p1)])) rfl (by rw [hml]; rfl) (argsL := [(.int p1), (.int p2), .null]) (rest := []) (lenOf own_pd185 rfl) rfl (by show 2 * 0 + _ ≤ _; exact Nat.le_of_eq rfl) (hb hby own_d21_5) (fun _ _ => ⟨rfl, e1, (by decide : 0 + 0 ≤ _), (by decide : 0 + 0 ≤ _)⟩)
  dsimp only [Pt.U, Pt.locs, Pt.cells, Pt.slots] at X2 l2 y2 z2 st2 hQ2
  subst l2 y2 z2
  obtain ⟨hv2, N2q, e2⟩ := hQ2
  have N3 := Fr.app N0 N2q
  rw [show (own_vN_f22 p1) = p1 from by first | rfl | decide | simp [own_vN_f22]] at hv2
  subst hv2
  obtain ⟨fs, hr, hrun, hended, hW, hsame⟩ := X2.leave (hlocks := hlk) (v := none) (fun _ => rfl)
  refine ⟨_, _, pre0 _ ?_, hrun, hended, _, _, rfl, ?_, ⟨_, rfl⟩, hW, hsame.mono (by decide) (by decide)⟩
  · show Steps p.tables e below (s₁.setTop (mkF m 0 #[.val (.int p1), .val (.int p2)] [])) _
    refine XS.iloadN X0.here hx rfl (hb hby own_d21_0) rfl ?_
    show Steps p.tables e below (s₁.setTop (mkF m 1 #[.val (.int p1), .val (.int p2)] [(.int p1)])) _
    refine XS.iloadN X0.here hx rfl (hb hby own_d21_1) rfl ?_
    show Steps p.tables e below (s₁.setTop (mkF m 2 #[.val (.int p1), .val (.int p2)] [(.int p2), (.int p1)])) _
    refine st1 _ ?_
    show Steps p.tables e below (T1.setTop (mkF m 5 #[.val (.int p1), .val (.int p2)] [.null, (.int p2), (.int p1)])) _
    refine st2 _ ?_
    show Steps p.tables e below (T2.setTop (mkF m 8 #[.val (.int p1), .val (.int p2)] [(.int p1)])) _
    refine XS.pop X2.here hx rfl (hb hby own_d21_8) rfl rfl ?_
    show Steps p.tables e below (T2.setTop (mkF m 9 #[.val (.int p1), .val (.int p2)] [])) _
    exact X2.returnOut hx Bd.returns (hb hby own_d21_9) hr
  · show own_vN_Q21 Z p1 p2 h0 n0 _ T2.heap _
    rw [e2]
    exact ⟨rfl, N3, rfl⟩
-- body 21, variant R
theorem own_vR_ef21 (m : MethodId) (x0 : Int32) (x1 : Int32) : entryFrame m #[(.int x0), (.int x1)] 2 = mkF m 0 #[.val (.int x0), .val (.int x1)] [] := by first | (simp [entryFrame, mkF, argsToLocals, Value.category]; done) | rfl
def own_vR_Q21 (Z : State) (p1 : Int32) (p2 : Int32) (w_SIOOBE_FORMATTER : Addr) (h0 : Heap) (n0 : Nat) (v : Option Value) (h : Heap) (L : List Loc) : Prop := v = none ∧ Fr n0 L ∧ h = h0
set_option maxRecDepth 65536 in
set_option maxHeartbeats 40000000 in
theorem own_vR_rm21 (l : Launch) (Z : State) (a0 : Array Value) (hw : ∀ d ∈ tables_1, d.before a0 Z = true) (ws : List Jvm.Cond) (p1 : Int32) (p2 : Int32) (w_SIOOBE_FORMATTER : Addr) (h0 : Heap) (n0 : Nat) (Z0 : n0 ≤ h0.size) (O0 : Old Z n0 h0) (hi1 : ¬ p1 < (0 : Int32)) (hi2 : p1 < p2) (S_SIOOBE_FORMATTER : Sta Z Z.heap "jdk/internal/util/Preconditions" "SIOOBE_FORMATTER" "Ljava/util/function/BiFunction;" (.ref w_SIOOBE_FORMATTER)) :
    MetFree l (⟨"java/lang/String", "checkIndex", "(II)V"⟩ : MethodName) (head1 (Jvm.Cond.code (⟨"java/lang/String", "checkIndex", "(II)V"⟩ : MethodName) jdk_42_method_155_code 2 none :: ws) ({ frames := 1, cells := 0, slots := 0, locals := 14 } : Room)) (fun a U => a = #[(.int p1), (.int p2)] ∧ Z.Warmed39 U.vm ∧ U.heap = h0) (fun _ _ _ _ _ => True) (fun _ U o U' => ∃ v L, o = .returned v ∧ own_vR_Q21 Z p1 p2 w_SIOOBE_FORMATTER h0 n0 v U'.heap L ∧ FrameEnd U o U' L ({ frames := 1, cells := 0, slots := 0, locals := 14 } : Room).cells ({ frames := 1, cells := 0, slots := 0, locals := 14 } : Room).slots) := by
  refine MetFree.of_bodySF (plainFor_of_name own_pn79) hisR ?_
  intro p e s m args below meth c s₁ Bd hml0 hP hK
  obtain ⟨rfl, hZ, hh⟩ := hP
  have hx := Bd.exec
  have hby := Bd.bytes
  have hml : c.maxLocals = 2 := hml0
  have hown : s.vm.findClass "java/lang/String" = some m.cls := findClass_of_methodNamed Bd.named
  have hnm := (name_of_methodNamed Bd.named Bd.method).1
  have X0 : Stand p l e ({ frames := 1, cells := 0, slots := 0, locals := 14 } : Room) s m #[(.int p1), (.int p2)] below meth c s₁ [] 0 0 := Stand.of_body Bd
  have hS0 : s.Since s.vm 0 := (State.WarmedH.refl s).since 0
  have hk0 : 0 ≤ h0.size := Nat.zero_le _
  have hlk := Bd.notSynchronized
  have e0 : s₁.heap = h0 := by rw [← hh, Bd.state]; rfl
  have N0 := Fr.nil n0
  have pre0 : ∀ t, Steps p.tables e below (s₁.setTop (mkF m 0 #[.val (.int p1), .val (.int p2)] [])) t → Steps p.tables e below (s₁.setTop (entryFrame m #[(.int p1), (.int p2)] 2)) t := fun t k => castTop (own_vR_ef21 m p1 p2) k
  obtain ⟨T1, X1, e1, st1⟩ := getS2 X0 hx hZ hown (host := "") (Or.inl (hw _ (List.mem_of_getElem? (i := 95) rfl))) Via.refl e0 (S_SIOOBE_FORMATTER.ext O0.2) (g := (mkF m 2 #[.val (.int p1), .val (.int p2)] [(.int p2), (.int p1)])) rfl (hb hby own_d21_2)
  obtain ⟨v2, _, ⟨T2, L2, k2, n2⟩, -, X2, ⟨Lc2, hQ2, l2, y2, z2⟩, st2⟩ := Jvm.LawKit.callS X1 hx (y := (⟨"jdk/internal/util/Preconditions", "checkIndex", "(IILjava/util/function/BiFunction;)I"⟩ : MethodName)) hown (mvT hZ (hw _ (List.mem_of_getElem? (i := 97) rfl))) (mvT hZ (hw _ (List.mem_of_getElem? (i := 98) rfl))) (mvT hZ (hw _ (List.mem_of_getElem? (i := 96) rfl))) (mvT hZ (hw _ (List.mem_of_getElem? (i := 99) rfl))) (by decide) (backOf (W := 0) (own_vR_rm22 l Z a0 hw [] p1 p2 w_SIOOBE_FORMATTER h0 n0 Z0 hi1 hi2) hZ (hw _ (List.mem_of_getElem? (i := 99) rfl)) (hw _ (List.mem_of_getElem? (i := 96) rfl)) (by decide) (by decide)) (g := (mkF m 5 #[.val (.int p1), .val (.int p2)] [(.ref w_SIOOBE_FORMATTER), (.int p2), (.int p1)])) rfl (by rw [hml]; rfl) (argsL := [(.int p1), (.int p2), (.ref w_SIOOBE_FORMATTER)]) (rest := []) (lenOf own_pd185 rfl) rfl (by show 2 * 0 + _ ≤ _; exact Nat.le_of_eq rfl) (hb hby own_d21_5) (fun _ _ => ⟨rfl, e1, (by decide : 0 + 0 ≤ _), (by decide : 0 + 0 ≤ _)⟩)
  dsimp only [Pt.U, Pt.locs, Pt.cells, Pt.slots] at X2 l2 y2 z2 st2 hQ2
  subst l2 y2 z2
  obtain ⟨hv2, N2q, e2⟩ := hQ2
  have N3 := Fr.app N0 N2q
  rw [show (own_vR_f22 p1) = p1 from by first | rfl | decide | simp [own_vR_f22]] at hv2
  subst hv2
  obtain ⟨fs, hr, hrun, hended, hW, hsame⟩ := X2.leave (hlocks := hlk) (v := none) (fun _ => rfl)
  refine ⟨_, _, pre0 _ ?_, hrun, hended, _, _, rfl, ?_, ⟨_, rfl⟩, hW, hsame.mono (by decide) (by decide)⟩
  · show Steps p.tables e below (s₁.setTop (mkF m 0 #[.val (.int p1), .val (.int p2)] [])) _
    refine XS.iloadN X0.here hx rfl (hb hby own_d21_0) rfl ?_
    show Steps p.tables e below (s₁.setTop (mkF m 1 #[.val (.int p1), .val (.int p2)] [(.int p1)])) _
    refine XS.iloadN X0.here hx rfl (hb hby own_d21_1) rfl ?_
    show Steps p.tables e below (s₁.setTop (mkF m 2 #[.val (.int p1), .val (.int p2)] [(.int p2), (.int p1)])) _
    refine st1 _ ?_
    show Steps p.tables e below (T1.setTop (mkF m 5 #[.val (.int p1), .val (.int p2)] [(.ref w_SIOOBE_FORMATTER), (.int p2), (.int p1)])) _
    refine st2 _ ?_
    show Steps p.tables e below (T2.setTop (mkF m 8 #[.val (.int p1), .val (.int p2)] [(.int p1)])) _
    refine XS.pop X2.here hx rfl (hb hby own_d21_8) rfl rfl ?_
    show Steps p.tables e below (T2.setTop (mkF m 9 #[.val (.int p1), .val (.int p2)] [])) _
    exact X2.returnOut hx Bd.returns (hb hby own_d21_9) hr
  · show own_vR_Q21 Z p1 p2 w_SIOOBE_FORMATTER h0 n0 _ T2.heap _
    rw [e2]
    exact ⟨rfl, N3, rfl⟩
def own_c_Q21 (Z : State) (p1 : Int32) (p2 : Int32) (w_SIOOBE_FORMATTER : Value) (h0 : Heap) (n0 : Nat) (v : Option Value) (h : Heap) (L : List Loc) : Prop := v = none ∧ Fr n0 L ∧ h = h0
theorem own_c_rm21 (l : Launch) (Z : State) (a0 : Array Value) (hw : ∀ d ∈ tables_1, d.before a0 Z = true) (ws : List Jvm.Cond) (p1 : Int32) (p2 : Int32) (w_SIOOBE_FORMATTER : Value) (h0 : Heap) (n0 : Nat) (Z0 : n0 ≤ h0.size) (O0 : Old Z n0 h0) (hi1 : ¬ p1 < (0 : Int32)) (hi2 : p1 < p2) (S_SIOOBE_FORMATTER : Sta Z Z.heap "jdk/internal/util/Preconditions" "SIOOBE_FORMATTER" "Ljava/util/function/BiFunction;" w_SIOOBE_FORMATTER) (hrf : w_SIOOBE_FORMATTER.isRef = true) :
    MetFree l (⟨"java/lang/String", "checkIndex", "(II)V"⟩ : MethodName) (head1 (Jvm.Cond.code (⟨"java/lang/String", "checkIndex", "(II)V"⟩ : MethodName) jdk_42_method_155_code 2 none :: ws) ({ frames := 1, cells := 0, slots := 0, locals := 14 } : Room)) (fun a U => a = #[(.int p1), (.int p2)] ∧ Z.Warmed39 U.vm ∧ U.heap = h0) (fun _ _ _ _ _ => True) (fun _ U o U' => ∃ v L, o = .returned v ∧ own_c_Q21 Z p1 p2 w_SIOOBE_FORMATTER h0 n0 v U'.heap L ∧ FrameEnd U o U' L ({ frames := 1, cells := 0, slots := 0, locals := 14 } : Room).cells ({ frames := 1, cells := 0, slots := 0, locals := 14 } : Room).slots) := by
  rcases ref_cases hrf with rfl | ⟨wf, rfl⟩
  · exact own_vN_rm21 l Z a0 hw ws p1 p2 h0 n0 Z0 O0 hi1 hi2 S_SIOOBE_FORMATTER
  · exact own_vR_rm21 l Z a0 hw ws p1 p2 wf h0 n0 Z0 O0 hi1 hi2 S_SIOOBE_FORMATTER
-- body 20, variant A0
theorem own_d20_0 : decode jdk_43_method_2_code 0 = .ok (.iload_n 1, 1) := by decide +kernel
theorem own_d20_1 : decode jdk_43_method_2_code 1 = .ok (.aload_n 0, 1) := by decide +kernel
theorem own_d20_2 : decode jdk_43_method_2_code 2 = .ok (.arraylength, 1) := by decide +kernel
theorem own_d20_3 : decode jdk_43_method_2_code 3 = .ok (.invokestatic 9, 3) := by decide +kernel
theorem own_d20_6 : decode jdk_43_method_2_code 6 = .ok (.aload_n 0, 1) := by decide +kernel
theorem own_d20_7 : decode jdk_43_method_2_code 7 = .ok (.iload_n 1, 1) := by decide +kernel
theorem own_d20_8 : decode jdk_43_method_2_code 8 = .ok (.baload, 1) := by decide +kernel
theorem own_d20_9 : decode jdk_43_method_2_code 9 = .ok (.sipush 255, 3) := by decide +kernel
theorem own_d20_12 : decode jdk_43_method_2_code 12 = .ok (.iand, 1) := by decide +kernel
theorem own_d20_13 : decode jdk_43_method_2_code 13 = .ok (.i2c, 1) := by decide +kernel
theorem own_d20_14 : decode jdk_43_method_2_code 14 = .ok (.ireturn, 1) := by decide +kernel
theorem own_vA0_ef20 (m : MethodId) (x0 : Addr) : entryFrame m #[(.ref x0), (.int (0 : Int32))] 2 = mkF m 0 #[.val (.ref x0), .val (.int (0 : Int32))] [] := by first | (simp [entryFrame, mkF, argsToLocals, Value.category]; done) | rfl
def own_vA0_f20 (y0 : Int32) : Int32 := (nar .char ((y0 &&& (255 : Int32)).toUInt32.toUInt16.toUInt32.toInt32))
def own_vA0_Q20 (Z : State) (a1 : Addr) (k_a1 : ClassId) (y0 : Int32) (w_SIOOBE_FORMATTER : Value) (h0 : Heap) (n0 : Nat) (v : Option Value) (h : Heap) (L : List Loc) : Prop := v = some (.int (own_vA0_f20 y0)) ∧ Fr n0 L ∧ h = h0
set_option maxRecDepth 65536 in
set_option maxHeartbeats 40000000 in
theorem own_vA0_rm20 (l : Launch) (Z : State) (a0 : Array Value) (hw : ∀ d ∈ tables_1, d.before a0 Z = true) (ws : List Jvm.Cond) (a1 : Addr) (k_a1 : ClassId) (y0 : Int32) (w_SIOOBE_FORMATTER : Value) (h0 : Heap) (n0 : Nat) (Z0 : n0 ≤ h0.size) (O0 : Old Z n0 h0) (V_a1 : Arv Z h0 a1 k_a1 .byte (1 : Int32) [(.int y0)] (.int (0 : Int32))) (hrf : w_SIOOBE_FORMATTER.isRef = true) (S_SIOOBE_FORMATTER : Sta Z Z.heap "jdk/internal/util/Preconditions" "SIOOBE_FORMATTER" "Ljava/util/function/BiFunction;" w_SIOOBE_FORMATTER) :
    MetFree l (⟨"java/lang/StringLatin1", "charAt", "([BI)C"⟩ : MethodName) (head1 (Jvm.Cond.code (⟨"java/lang/StringLatin1", "charAt", "([BI)C"⟩ : MethodName) jdk_43_method_2_code 2 (some .char) :: ws) ({ frames := 2, cells := 0, slots := 0, locals := 27 } : Room)) (fun a U => a = #[(.ref a1), (.int (0 : Int32))] ∧ Z.Warmed39 U.vm ∧ U.heap = h0) (fun _ _ _ _ _ => True) (fun _ U o U' => ∃ v L, o = .returned v ∧ own_vA0_Q20 Z a1 k_a1 y0 w_SIOOBE_FORMATTER h0 n0 v U'.heap L ∧ FrameEnd U o U' L ({ frames := 2, cells := 0, slots := 0, locals := 27 } : Room).cells ({ frames := 2, cells := 0, slots := 0, locals := 27 } : Room).slots) := by
  refine MetFree.of_bodySF (plainFor_of_name own_pn193) hisR ?_
  intro p e s m args below meth c s₁ Bd hml0 hP hK
  obtain ⟨rfl, hZ, hh⟩ := hP
  have hx := Bd.exec
  have hby := Bd.bytes
  have hml : c.maxLocals = 2 := hml0
  have hown : s.vm.findClass "java/lang/StringLatin1" = some m.cls := findClass_of_methodNamed Bd.named
  have hnm := (name_of_methodNamed Bd.named Bd.method).1
  have X0 : Stand p l e ({ frames := 2, cells := 0, slots := 0, locals := 27 } : Room) s m #[(.ref a1), (.int (0 : Int32))] below meth c s₁ [] 0 0 := Stand.of_body Bd
  have hS0 : s.Since s.vm 0 := (State.WarmedH.refl s).since 0
  have hk0 : 0 ≤ h0.size := Nat.zero_le _
  have hlk := Bd.notSynchronized
  have e0 : s₁.heap = h0 := by rw [← hh, Bd.state]; rfl
  have N0 := Fr.nil n0
  have pre0 : ∀ t, Steps p.tables e below (s₁.setTop (mkF m 0 #[.val (.ref a1), .val (.int (0 : Int32))] [])) t → Steps p.tables e below (s₁.setTop (entryFrame m #[(.ref a1), (.int (0 : Int32))] 2)) t := fun t k => castTop (own_vA0_ef20 m a1) k
  obtain ⟨cl1, Ar1, qk1, Sz1, Nn1, Hs1, Gf1⟩ := id V_a1
  obtain ⟨v2, _, ⟨T2, L2, k2, n2⟩, -, X2, ⟨Lc2, hQ2, l2, y2, z2⟩, st2⟩ := Jvm.LawKit.callS X0 hx (y := (⟨"java/lang/String", "checkIndex", "(II)V"⟩ : MethodName)) hown (mvT hZ (hw _ (List.mem_of_getElem? (i := 92) rfl))) (mvT hZ (hw _ (List.mem_of_getElem? (i := 93) rfl))) (mvT hZ (hw _ (List.mem_of_getElem? (i := 16) rfl))) (mvT hZ (hw _ (List.mem_of_getElem? (i := 94) rfl))) (by decide) (backOf (W := 0) (own_c_rm21 l Z a0 hw [] (0 : Int32) (1 : Int32) w_SIOOBE_FORMATTER h0 n0 Z0 O0 (by decide) (by decide) S_SIOOBE_FORMATTER hrf) hZ (hw _ (List.mem_of_getElem? (i := 94) rfl)) (hw _ (List.mem_of_getElem? (i := 16) rfl)) (by decide) (by decide)) (g := (mkF m 3 #[.val (.ref a1), .val (.int (0 : Int32))] [(.int (1 : Int32)), (.int (0 : Int32))])) rfl (by rw [hml]; rfl) (argsL := [(.int (0 : Int32)), (.int (1 : Int32))]) (rest := []) (lenOf own_pd192 rfl) rfl (by show 2 * 0 + _ ≤ _; exact Nat.le_of_eq rfl) (hb hby own_d20_3) (fun _ _ => ⟨rfl, e0, (by decide : 0 + 0 ≤ _), (by decide : 0 + 0 ≤ _)⟩)
  dsimp only [Pt.U, Pt.locs, Pt.cells, Pt.slots] at X2 l2 y2 z2 st2 hQ2
  subst l2 y2 z2
  obtain ⟨rfl, N2q, e2⟩ := hQ2
  have N3 := Fr.app N0 N2q
  obtain ⟨cl4, Ar4, qk4, Sz4, Nn4, Hs4, Gf4⟩ := id V_a1
  have hin4 : ¬ ((0 : Int32) < 0 ∨ cl4.slots.size ≤ ((0 : Int32)).toNatClampNeg) := inb_of Sz4 ⟨by decide, by decide⟩
  have hat4 : cl4.slots[((0 : Int32)).toNatClampNeg]? = some (.int y0) := Has.at Hs4 hin4 rfl
  obtain ⟨fs, hr, hrun, hended, hW, hsame⟩ := X2.leave (hlocks := hlk) (v := some (.int (nar .char ((y0 &&& (255 : Int32)).toUInt32.toUInt16.toUInt32.toInt32)))) (fun h => by rw [Bd.returns] at h; cases h)
  refine ⟨_, _, pre0 _ ?_, hrun, hended, _, _, rfl, ?_, ⟨_, rfl⟩, hW, hsame.mono (by decide) (by decide)⟩
  · show Steps p.tables e below (s₁.setTop (mkF m 0 #[.val (.ref a1), .val (.int (0 : Int32))] [])) _
    refine XS.iloadN X0.here hx rfl (hb hby own_d20_0) rfl ?_
    show Steps p.tables e below (s₁.setTop (mkF m 1 #[.val (.ref a1), .val (.int (0 : Int32))] [(.int (0 : Int32))])) _
    refine XS.aloadN X0.here hx rfl (hb hby own_d20_1) rfl rfl ?_
    show Steps p.tables e below (s₁.setTop (mkF m 2 #[.val (.ref a1), .val (.int (0 : Int32))] [(.ref a1), (.int (0 : Int32))])) _
    refine X0.arraylength hx (by rw [e0]; exact Ar1.1) (State.isArrayOf_alike hZ.alike Ar1.2.1) (g := (mkF m 2 #[.val (.ref a1), .val (.int (0 : Int32))] [(.ref a1), (.int (0 : Int32))])) rfl rfl (hb hby own_d20_2) _ ?_
    rw [len_of Sz1 Nn1]
    show Steps p.tables e below (s₁.setTop (mkF m 3 #[.val (.ref a1), .val (.int (0 : Int32))] [(.int (1 : Int32)), (.int (0 : Int32))])) _
    refine st2 _ ?_
    show Steps p.tables e below (T2.setTop (mkF m 6 #[.val (.ref a1), .val (.int (0 : Int32))] [])) _
    refine XS.aloadN X2.here hx rfl (hb hby own_d20_6) rfl rfl ?_
    show Steps p.tables e below (T2.setTop (mkF m 7 #[.val (.ref a1), .val (.int (0 : Int32))] [(.ref a1)])) _
    refine XS.iloadN X2.here hx rfl (hb hby own_d20_7) rfl ?_
    show Steps p.tables e below (T2.setTop (mkF m 8 #[.val (.ref a1), .val (.int (0 : Int32))] [(.int (0 : Int32)), (.ref a1)])) _
    refine X2.baloadBytes hx (j := (0 : Int32)) (v := (.int y0)) (by rw [e2]; exact Ar4.1) (State.isArrayOf_alike hZ.alike Ar4.2.1) Ar4.2.2 hin4 hat4 (g := (mkF m 8 #[.val (.ref a1), .val (.int (0 : Int32))] [(.int (0 : Int32)), (.ref a1)])) rfl rfl (hb hby own_d20_8) _ ?_
    show Steps p.tables e below (T2.setTop (mkF m 9 #[.val (.ref a1), .val (.int (0 : Int32))] [(.int y0)])) _
    refine XS.sipush X2.here hx rfl (hb hby own_d20_9) ?_
    show Steps p.tables e below (T2.setTop (mkF m 12 #[.val (.ref a1), .val (.int (0 : Int32))] [(.int (255 : Int32)), (.int y0)])) _
    refine XS.iand X2.here hx rfl (hb hby own_d20_12) rfl ?_
    show Steps p.tables e below (T2.setTop (mkF m 13 #[.val (.ref a1), .val (.int (0 : Int32))] [(.int (y0 &&& (255 : Int32)))])) _
    refine XS.i2c X2.here hx rfl (hb hby own_d20_13) rfl ?_
    show Steps p.tables e below (T2.setTop (mkF m 14 #[.val (.ref a1), .val (.int (0 : Int32))] [(.int ((y0 &&& (255 : Int32)).toUInt32.toUInt16.toUInt32.toInt32))])) _
    exact retN X2 hx (t := .char) Bd.returns (by simp) (hb hby own_d20_14) hr
  · show own_vA0_Q20 Z a1 k_a1 y0 w_SIOOBE_FORMATTER h0 n0 _ T2.heap _
    rw [e2]
    exact ⟨(by rw [own_vA0_f20]), N3, rfl⟩
-- body 20, variant B0
theorem own_vB0_ef20 (m : MethodId) (x0 : Addr) : entryFrame m #[(.ref x0), (.int (0 : Int32))] 2 = mkF m 0 #[.val (.ref x0), .val (.int (0 : Int32))] [] := by first | (simp [entryFrame, mkF, argsToLocals, Value.category]; done) | rfl
def own_vB0_f20 (y0 : Int32) : Int32 := (nar .char ((y0 &&& (255 : Int32)).toUInt32.toUInt16.toUInt32.toInt32))
def own_vB0_Q20 (Z : State) (a1 : Addr) (k_a1 : ClassId) (y0 : Int32) (y1 : Int32) (w_SIOOBE_FORMATTER : Value) (h0 : Heap) (n0 : Nat) (v : Option Value) (h : Heap) (L : List Loc) : Prop := v = some (.int (own_vB0_f20 y0)) ∧ Fr n0 L ∧ h = h0
set_option maxRecDepth 65536 in
set_option maxHeartbeats 40000000 in
theorem own_vB0_rm20 (l : Launch) (Z : State) (a0 : Array Value) (hw : ∀ d ∈ tables_1, d.before a0 Z = true) (ws : List Jvm.Cond) (a1 : Addr) (k_a1 : ClassId) (y0 : Int32) (y1 : Int32) (w_SIOOBE_FORMATTER : Value) (h0 : Heap) (n0 : Nat) (Z0 : n0 ≤ h0.size) (O0 : Old Z n0 h0) (V_a1 : Arv Z h0 a1 k_a1 .byte (2 : Int32) [(.int y0), (.int y1)] (.int (0 : Int32))) (hrf : w_SIOOBE_FORMATTER.isRef = true) (S_SIOOBE_FORMATTER : Sta Z Z.heap "jdk/internal/util/Preconditions" "SIOOBE_FORMATTER" "Ljava/util/function/BiFunction;" w_SIOOBE_FORMATTER) :
    MetFree l (⟨"java/lang/StringLatin1", "charAt", "([BI)C"⟩ : MethodName) (head1 (Jvm.Cond.code (⟨"java/lang/StringLatin1", "charAt", "([BI)C"⟩ : MethodName) jdk_43_method_2_code 2 (some .char) :: ws) ({ frames := 2, cells := 0, slots := 0, locals := 27 } : Room)) (fun a U => a = #[(.ref a1), (.int (0 : Int32))] ∧ Z.Warmed39 U.vm ∧ U.heap = h0) (fun _ _ _ _ _ => True) (fun _ U o U' => ∃ v L, o = .returned v ∧ own_vB0_Q20 Z a1 k_a1 y0 y1 w_SIOOBE_FORMATTER h0 n0 v U'.heap L ∧ FrameEnd U o U' L ({ frames := 2, cells := 0, slots := 0, locals := 27 } : Room).cells ({ frames := 2, cells := 0, slots := 0, locals := 27 } : Room).slots) := by
  refine MetFree.of_bodySF (plainFor_of_name own_pn193) hisR ?_
  intro p e s m args below meth c s₁ Bd hml0 hP hK
  obtain ⟨rfl, hZ, hh⟩ := hP
  have hx := Bd.exec
  have hby := Bd.bytes
  have hml : c.maxLocals = 2 := hml0
  have hown : s.vm.findClass "java/lang/StringLatin1" = some m.cls := findClass_of_methodNamed Bd.named
  have hnm := (name_of_methodNamed Bd.named Bd.method).1
  have X0 : Stand p l e ({ frames := 2, cells := 0, slots := 0, locals := 27 } : Room) s m #[(.ref a1), (.int (0 : Int32))] below meth c s₁ [] 0 0 := Stand.of_body Bd
  have hS0 : s.Since s.vm 0 := (State.WarmedH.refl s).since 0
  have hk0 : 0 ≤ h0.size := Nat.zero_le _
  have hlk := Bd.notSynchronized
  have e0 : s₁.heap = h0 := by rw [← hh, Bd.state]; rfl
  have N0 := Fr.nil n0
  have pre0 : ∀ t, Steps p.tables e below (s₁.setTop (mkF m 0 #[.val (.ref a1), .val (.int (0 : Int32))] [])) t → Steps p.tables e below (s₁.setTop (entryFrame m #[(.ref a1), (.int (0 : Int32))] 2)) t := fun t k => castTop (own_vB0_ef20 m a1) k
  obtain ⟨cl1, Ar1, qk1, Sz1, Nn1, Hs1, Gf1⟩ := id V_a1
  obtain ⟨v2, _, ⟨T2, L2, k2, n2⟩, -, X2, ⟨Lc2, hQ2, l2, y2, z2⟩, st2⟩ := Jvm.LawKit.callS X0 hx (y := (⟨"java/lang/String", "checkIndex", "(II)V"⟩ : MethodName)) hown (mvT hZ (hw _ (List.mem_of_getElem? (i := 92) rfl))) (mvT hZ (hw _ (List.mem_of_getElem? (i := 93) rfl))) (mvT hZ (hw _ (List.mem_of_getElem? (i := 16) rfl))) (mvT hZ (hw _ (List.mem_of_getElem? (i := 94) rfl))) (by decide) (backOf (W := 0) (own_c_rm21 l Z a0 hw [] (0 : Int32) (2 : Int32) w_SIOOBE_FORMATTER h0 n0 Z0 O0 (by decide) (by decide) S_SIOOBE_FORMATTER hrf) hZ (hw _ (List.mem_of_getElem? (i := 94) rfl)) (hw _ (List.mem_of_getElem? (i := 16) rfl)) (by decide) (by decide)) (g := (mkF m 3 #[.val (.ref a1), .val (.int (0 : Int32))] [(.int (2 : Int32)), (.int (0 : Int32))])) rfl (by rw [hml]; rfl) (argsL := [(.int (0 : Int32)), (.int (2 : Int32))]) (rest := []) (lenOf own_pd192 rfl) rfl (by show 2 * 0 + _ ≤ _; exact Nat.le_of_eq rfl) (hb hby own_d20_3) (fun _ _ => ⟨rfl, e0, (by decide : 0 + 0 ≤ _), (by decide : 0 + 0 ≤ _)⟩)
  dsimp only [Pt.U, Pt.locs, Pt.cells, Pt.slots] at X2 l2 y2 z2 st2 hQ2
  subst l2 y2 z2
  obtain ⟨rfl, N2q, e2⟩ := hQ2
  have N3 := Fr.app N0 N2q
  obtain ⟨cl4, Ar4, qk4, Sz4, Nn4, Hs4, Gf4⟩ := id V_a1
  have hin4 : ¬ ((0 : Int32) < 0 ∨ cl4.slots.size ≤ ((0 : Int32)).toNatClampNeg) := inb_of Sz4 ⟨by decide, by decide⟩
  have hat4 : cl4.slots[((0 : Int32)).toNatClampNeg]? = some (.int y0) := Has.at Hs4 hin4 rfl
  obtain ⟨fs, hr, hrun, hended, hW, hsame⟩ := X2.leave (hlocks := hlk) (v := some (.int (nar .char ((y0 &&& (255 : Int32)).toUInt32.toUInt16.toUInt32.toInt32)))) (fun h => by rw [Bd.returns] at h; cases h)
  refine ⟨_, _, pre0 _ ?_, hrun, hended, _, _, rfl, ?_, ⟨_, rfl⟩, hW, hsame.mono (by decide) (by decide)⟩
  · show Steps p.tables e below (s₁.setTop (mkF m 0 #[.val (.ref a1), .val (.int (0 : Int32))] [])) _
    refine XS.iloadN X0.here hx rfl (hb hby own_d20_0) rfl ?_
    show Steps p.tables e below (s₁.setTop (mkF m 1 #[.val (.ref a1), .val (.int (0 : Int32))] [(.int (0 : Int32))])) _
    refine XS.aloadN X0.here hx rfl (hb hby own_d20_1) rfl rfl ?_
    show Steps p.tables e below (s₁.setTop (mkF m 2 #[.val (.ref a1), .val (.int (0 : Int32))] [(.ref a1), (.int (0 : Int32))])) _
    refine X0.arraylength hx (by rw [e0]; exact Ar1.1) (State.isArrayOf_alike hZ.alike Ar1.2.1) (g := (mkF m 2 #[.val (.ref a1), .val (.int (0 : Int32))] [(.ref a1), (.int (0 : Int32))])) rfl rfl (hb hby own_d20_2) _ ?_
    rw [len_of Sz1 Nn1]
    show Steps p.tables e below (s₁.setTop (mkF m 3 #[.val (.ref a1), .val (.int (0 : Int32))] [(.int (2 : Int32)), (.int (0 : Int32))])) _
    refine st2 _ ?_
    show Steps p.tables e below (T2.setTop (mkF m 6 #[.val (.ref a1), .val (.int (0 : Int32))] [])) _
    refine XS.aloadN X2.here hx rfl (hb hby own_d20_6) rfl rfl ?_
    show Steps p.tables e below (T2.setTop (mkF m 7 #[.val (.ref a1), .val (.int (0 : Int32))] [(.ref a1)])) _
    refine XS.iloadN X2.here hx rfl (hb hby own_d20_7) rfl ?_
    show Steps p.tables e below (T2.setTop (mkF m 8 #[.val (.ref a1), .val (.int (0 : Int32))] [(.int (0 : Int32)), (.ref a1)])) _
    refine X2.baloadBytes hx (j := (0 : Int32)) (v := (.int y0)) (by rw [e2]; exact Ar4.1) (State.isArrayOf_alike hZ.alike Ar4.2.1) Ar4.2.2 hin4 hat4 (g := (mkF m 8 #[.val (.ref a1), .val (.int (0 : Int32))] [(.int (0 : Int32)), (.ref a1)])) rfl rfl (hb hby own_d20_8) _ ?_
    show Steps p.tables e below (T2.setTop (mkF m 9 #[.val (.ref a1), .val (.int (0 : Int32))] [(.int y0)])) _
    refine XS.sipush X2.here hx rfl (hb hby own_d20_9) ?_
    show Steps p.tables e below (T2.setTop (mkF m 12 #[.val (.ref a1), .val (.int (0 : Int32))] [(.int (255 : Int32)), (.int y0)])) _
    refine XS.iand X2.here hx rfl (hb hby own_d20_12) rfl ?_
    show Steps p.tables e below (T2.setTop (mkF m 13 #[.val (.ref a1), .val (.int (0 : Int32))] [(.int (y0 &&& (255 : Int32)))])) _
    refine XS.i2c X2.here hx rfl (hb hby own_d20_13) rfl ?_
    show Steps p.tables e below (T2.setTop (mkF m 14 #[.val (.ref a1), .val (.int (0 : Int32))] [(.int ((y0 &&& (255 : Int32)).toUInt32.toUInt16.toUInt32.toInt32))])) _
    exact retN X2 hx (t := .char) Bd.returns (by simp) (hb hby own_d20_14) hr
  · show own_vB0_Q20 Z a1 k_a1 y0 y1 w_SIOOBE_FORMATTER h0 n0 _ T2.heap _
    rw [e2]
    exact ⟨(by rw [own_vB0_f20]), N3, rfl⟩
-- body 20, variant B1
theorem own_vB1_ef20 (m : MethodId) (x0 : Addr) : entryFrame m #[(.ref x0), (.int (1 : Int32))] 2 = mkF m 0 #[.val (.ref x0), .val (.int (1 : Int32))] [] := by first | (simp [entryFrame, mkF, argsToLocals, Value.category]; done) | rfl
def own_vB1_f20 (y1 : Int32) : Int32 := (nar .char ((y1 &&& (255 : Int32)).toUInt32.toUInt16.toUInt32.toInt32))
def own_vB1_Q20 (Z : State) (a1 : Addr) (k_a1 : ClassId) (y0 : Int32) (y1 : Int32) (w_SIOOBE_FORMATTER : Value) (h0 : Heap) (n0 : Nat) (v : Option Value) (h : Heap) (L : List Loc) : Prop := v = some (.int (own_vB1_f20 y1)) ∧ Fr n0 L ∧ h = h0
set_option maxRecDepth 65536 in
set_option maxHeartbeats 40000000 in
theorem own_vB1_rm20 (l : Launch) (Z : State) (a0 : Array Value) (hw : ∀ d ∈ tables_1, d.before a0 Z = true) (ws : List Jvm.Cond) (a1 : Addr) (k_a1 : ClassId) (y0 : Int32) (y1 : Int32) (w_SIOOBE_FORMATTER : Value) (h0 : Heap) (n0 : Nat) (Z0 : n0 ≤ h0.size) (O0 : Old Z n0 h0) (V_a1 : Arv Z h0 a1 k_a1 .byte (2 : Int32) [(.int y0), (.int y1)] (.int (0 : Int32))) (hrf : w_SIOOBE_FORMATTER.isRef = true) (S_SIOOBE_FORMATTER : Sta Z Z.heap "jdk/internal/util/Preconditions" "SIOOBE_FORMATTER" "Ljava/util/function/BiFunction;" w_SIOOBE_FORMATTER) :
    MetFree l (⟨"java/lang/StringLatin1", "charAt", "([BI)C"⟩ : MethodName) (head1 (Jvm.Cond.code (⟨"java/lang/StringLatin1", "charAt", "([BI)C"⟩ : MethodName) jdk_43_method_2_code 2 (some .char) :: ws) ({ frames := 2, cells := 0, slots := 0, locals := 27 } : Room)) (fun a U => a = #[(.ref a1), (.int (1 : Int32))] ∧ Z.Warmed39 U.vm ∧ U.heap = h0) (fun _ _ _ _ _ => True) (fun _ U o U' => ∃ v L, o = .returned v ∧ own_vB1_Q20 Z a1 k_a1 y0 y1 w_SIOOBE_FORMATTER h0 n0 v U'.heap L ∧ FrameEnd U o U' L ({ frames := 2, cells := 0, slots := 0, locals := 27 } : Room).cells ({ frames := 2, cells := 0, slots := 0, locals := 27 } : Room).slots) := by
  refine MetFree.of_bodySF (plainFor_of_name own_pn193) hisR ?_
  intro p e s m args below meth c s₁ Bd hml0 hP hK
  obtain ⟨rfl, hZ, hh⟩ := hP
  have hx := Bd.exec
  have hby := Bd.bytes
  have hml : c.maxLocals = 2 := hml0
  have hown : s.vm.findClass "java/lang/StringLatin1" = some m.cls := findClass_of_methodNamed Bd.named
  have hnm := (name_of_methodNamed Bd.named Bd.method).1
  have X0 : Stand p l e ({ frames := 2, cells := 0, slots := 0, locals := 27 } : Room) s m #[(.ref a1), (.int (1 : Int32))] below meth c s₁ [] 0 0 := Stand.of_body Bd
  have hS0 : s.Since s.vm 0 := (State.WarmedH.refl s).since 0
  have hk0 : 0 ≤ h0.size := Nat.zero_le _
  have hlk := Bd.notSynchronized
  have e0 : s₁.heap = h0 := by rw [← hh, Bd.state]; rfl
  have N0 := Fr.nil n0
  have pre0 : ∀ t, Steps p.tables e below (s₁.setTop (mkF m 0 #[.val (.ref a1), .val (.int (1 : Int32))] [])) t → Steps p.tables e below (s₁.setTop (entryFrame m #[(.ref a1), (.int (1 : Int32))] 2)) t := fun t k => castTop (own_vB1_ef20 m a1) k
  obtain ⟨cl1, Ar1, qk1, Sz1, Nn1, Hs1, Gf1⟩ := id V_a1
  obtain ⟨v2, _, ⟨T2, L2, k2, n2⟩, -, X2, ⟨Lc2, hQ2, l2, y2, z2⟩, st2⟩ := Jvm.LawKit.callS X0 hx (y := (⟨"java/lang/String", "checkIndex", "(II)V"⟩ : MethodName)) hown (mvT hZ (hw _ (List.mem_of_getElem? (i := 92) rfl))) (mvT hZ (hw _ (List.mem_of_getElem? (i := 93) rfl))) (mvT hZ (hw _ (List.mem_of_getElem? (i := 16) rfl))) (mvT hZ (hw _ (List.mem_of_getElem? (i := 94) rfl))) (by decide) (backOf (W := 0) (own_c_rm21 l Z a0 hw [] (1 : Int32) (2 : Int32) w_SIOOBE_FORMATTER h0 n0 Z0 O0 (by decide) (by decide) S_SIOOBE_FORMATTER hrf) hZ (hw _ (List.mem_of_getElem? (i := 94) rfl)) (hw _ (List.mem_of_getElem? (i := 16) rfl)) (by decide) (by decide)) (g := (mkF m 3 #[.val (.ref a1), .val (.int (1 : Int32))] [(.int (2 : Int32)), (.int (1 : Int32))])) rfl (by rw [hml]; rfl) (argsL := [(.int (1 : Int32)), (.int (2 : Int32))]) (rest := []) (lenOf own_pd192 rfl) rfl (by show 2 * 0 + _ ≤ _; exact Nat.le_of_eq rfl) (hb hby own_d20_3) (fun _ _ => ⟨rfl, e0, (by decide : 0 + 0 ≤ _), (by decide : 0 + 0 ≤ _)⟩)
  dsimp only [Pt.U, Pt.locs, Pt.cells, Pt.slots] at X2 l2 y2 z2 st2 hQ2
  subst l2 y2 z2
  obtain ⟨rfl, N2q, e2⟩ := hQ2
  have N3 := Fr.app N0 N2q
  obtain ⟨cl4, Ar4, qk4, Sz4, Nn4, Hs4, Gf4⟩ := id V_a1
  have hin4 : ¬ ((1 : Int32) < 0 ∨ cl4.slots.size ≤ ((1 : Int32)).toNatClampNeg) := inb_of Sz4 ⟨by decide, by decide⟩
  have hat4 : cl4.slots[((1 : Int32)).toNatClampNeg]? = some (.int y1) := Has.at Hs4 hin4 rfl
  obtain ⟨fs, hr, hrun, hended, hW, hsame⟩ := X2.leave (hlocks := hlk) (v := some (.int (nar .char ((y1 &&& (255 : Int32)).toUInt32.toUInt16.toUInt32.toInt32)))) (fun h => by rw [Bd.returns] at h; cases h)
  refine ⟨_, _, pre0 _ ?_, hrun, hended, _, _, rfl, ?_, ⟨_, rfl⟩, hW, hsame.mono (by decide) (by decide)⟩
  · show Steps p.tables e below (s₁.setTop (mkF m 0 #[.val (.ref a1), .val (.int (1 : Int32))] [])) _
    refine XS.iloadN X0.here hx rfl (hb hby own_d20_0) rfl ?_
    show Steps p.tables e below (s₁.setTop (mkF m 1 #[.val (.ref a1), .val (.int (1 : Int32))] [(.int (1 : Int32))])) _
    refine XS.aloadN X0.here hx rfl (hb hby own_d20_1) rfl rfl ?_
    show Steps p.tables e below (s₁.setTop (mkF m 2 #[.val (.ref a1), .val (.int (1 : Int32))] [(.ref a1), (.int (1 : Int32))])) _
    refine X0.arraylength hx (by rw [e0]; exact Ar1.1) (State.isArrayOf_alike hZ.alike Ar1.2.1) (g := (mkF m 2 #[.val (.ref a1), .val (.int (1 : Int32))] [(.ref a1), (.int (1 : Int32))])) rfl rfl (hb hby own_d20_2) _ ?_
    rw [len_of Sz1 Nn1]
    show Steps p.tables e below (s₁.setTop (mkF m 3 #[.val (.ref a1), .val (.int (1 : Int32))] [(.int (2 : Int32)), (.int (1 : Int32))])) _
    refine st2 _ ?_
    show Steps p.tables e below (T2.setTop (mkF m 6 #[.val (.ref a1), .val (.int (1 : Int32))] [])) _
    refine XS.aloadN X2.here hx rfl (hb hby own_d20_6) rfl rfl ?_
    show Steps p.tables e below (T2.setTop (mkF m 7 #[.val (.ref a1), .val (.int (1 : Int32))] [(.ref a1)])) _
    refine XS.iloadN X2.here hx rfl (hb hby own_d20_7) rfl ?_
    show Steps p.tables e below (T2.setTop (mkF m 8 #[.val (.ref a1), .val (.int (1 : Int32))] [(.int (1 : Int32)), (.ref a1)])) _
    refine X2.baloadBytes hx (j := (1 : Int32)) (v := (.int y1)) (by rw [e2]; exact Ar4.1) (State.isArrayOf_alike hZ.alike Ar4.2.1) Ar4.2.2 hin4 hat4 (g := (mkF m 8 #[.val (.ref a1), .val (.int (1 : Int32))] [(.int (1 : Int32)), (.ref a1)])) rfl rfl (hb hby own_d20_8) _ ?_
    show Steps p.tables e below (T2.setTop (mkF m 9 #[.val (.ref a1), .val (.int (1 : Int32))] [(.int y1)])) _
    refine XS.sipush X2.here hx rfl (hb hby own_d20_9) ?_
    show Steps p.tables e below (T2.setTop (mkF m 12 #[.val (.ref a1), .val (.int (1 : Int32))] [(.int (255 : Int32)), (.int y1)])) _
    refine XS.iand X2.here hx rfl (hb hby own_d20_12) rfl ?_
    show Steps p.tables e below (T2.setTop (mkF m 13 #[.val (.ref a1), .val (.int (1 : Int32))] [(.int (y1 &&& (255 : Int32)))])) _
    refine XS.i2c X2.here hx rfl (hb hby own_d20_13) rfl ?_
    show Steps p.tables e below (T2.setTop (mkF m 14 #[.val (.ref a1), .val (.int (1 : Int32))] [(.int ((y1 &&& (255 : Int32)).toUInt32.toUInt16.toUInt32.toInt32))])) _
    exact retN X2 hx (t := .char) Bd.returns (by simp) (hb hby own_d20_14) hr
  · show own_vB1_Q20 Z a1 k_a1 y0 y1 w_SIOOBE_FORMATTER h0 n0 _ T2.heap _
    rw [e2]
    exact ⟨(by rw [own_vB1_f20]), N3, rfl⟩
-- body 18, variant A0
theorem own_d18_0 : decode jdk_42_method_56_code 0 = .ok (.aload_n 0, 1) := by decide +kernel
theorem own_d18_1 : decode jdk_42_method_56_code 1 = .ok (.invokevirtual 492, 3) := by decide +kernel
theorem own_d18_4 : decode jdk_42_method_56_code 4 = .ok (.ifCond .eq 12, 3) := by decide +kernel
theorem own_d18_7 : decode jdk_42_method_56_code 7 = .ok (.aload_n 0, 1) := by decide +kernel
theorem own_d18_8 : decode jdk_42_method_56_code 8 = .ok (.getfield 9, 3) := by decide +kernel
theorem own_d18_11 : decode jdk_42_method_56_code 11 = .ok (.iload_n 1, 1) := by decide +kernel
theorem own_d18_12 : decode jdk_42_method_56_code 12 = .ok (.invokestatic 495, 3) := by decide +kernel
theorem own_d18_15 : decode jdk_42_method_56_code 15 = .ok (.ireturn, 1) := by decide +kernel
theorem own_vA0_ef18 (m : MethodId) (x0 : Addr) : entryFrame m #[(.ref x0), (.int (0 : Int32))] 2 = mkF m 0 #[.val (.ref x0), .val (.int (0 : Int32))] [] := by first | (simp [entryFrame, mkF, argsToLocals, Value.category]; done) | rfl
def own_vA0_f18 (y0 : Int32) : Int32 := (nar .char (own_vA0_f20 y0))
def own_vA0_Q18 (Z : State) (a1 : Addr) (w_value_a1 : Addr) (k_w_value_a1 : ClassId) (y0 : Int32) (w_COMPACT_STRINGS : Int32) (w_SIOOBE_FORMATTER : Value) (h0 : Heap) (n0 : Nat) (v : Option Value) (h : Heap) (L : List Loc) : Prop := v = some (.int (own_vA0_f18 y0)) ∧ Fr n0 L ∧ h = h0
set_option maxRecDepth 65536 in
set_option maxHeartbeats 40000000 in
theorem own_vA0_rm18 (l : Launch) (Z : State) (a0 : Array Value) (hw : ∀ d ∈ tables_1, d.before a0 Z = true) (ws : List Jvm.Cond) (a1 : Addr) (w_value_a1 : Addr) (k_w_value_a1 : ClassId) (y0 : Int32) (w_COMPACT_STRINGS : Int32) (w_SIOOBE_FORMATTER : Value) (h0 : Heap) (n0 : Nat) (Z0 : n0 ≤ h0.size) (O0 : Old Z n0 h0) (V_w_value_a1 : Arv Z h0 w_value_a1 k_w_value_a1 .byte (1 : Int32) [(.int y0)] (.int (0 : Int32))) (hcs : ¬ w_COMPACT_STRINGS = (0 : Int32)) (hrf : w_SIOOBE_FORMATTER.isRef = true) (S_COMPACT_STRINGS : Sta Z Z.heap "java/lang/String" "COMPACT_STRINGS" "Z" (.int w_COMPACT_STRINGS)) (F_coder_a1 : Fld Z h0 a1 "java/lang/String" "coder" "B" (.int (0 : Int32))) (E_a1 : Exa Z h0 a1 "java/lang/String") (F_value_a1 : Fld Z h0 a1 "java/lang/String" "value" "[B" (.ref w_value_a1)) (S_SIOOBE_FORMATTER : Sta Z Z.heap "jdk/internal/util/Preconditions" "SIOOBE_FORMATTER" "Ljava/util/function/BiFunction;" w_SIOOBE_FORMATTER) :
    MetFree l (⟨"java/lang/String", "charAt", "(I)C"⟩ : MethodName) (head1 (Jvm.Cond.code (⟨"java/lang/String", "charAt", "(I)C"⟩ : MethodName) jdk_42_method_56_code 2 (some .char) :: ws) ({ frames := 3, cells := 0, slots := 0, locals := 40 } : Room)) (fun a U => a = #[(.ref a1), (.int (0 : Int32))] ∧ Z.Warmed39 U.vm ∧ U.heap = h0) (fun _ _ _ _ _ => True) (fun _ U o U' => ∃ v L, o = .returned v ∧ own_vA0_Q18 Z a1 w_value_a1 k_w_value_a1 y0 w_COMPACT_STRINGS w_SIOOBE_FORMATTER h0 n0 v U'.heap L ∧ FrameEnd U o U' L ({ frames := 3, cells := 0, slots := 0, locals := 40 } : Room).cells ({ frames := 3, cells := 0, slots := 0, locals := 40 } : Room).slots) := by
  refine MetFree.of_bodySF (plainFor_of_name own_pn79) hisR ?_
  intro p e s m args below meth c s₁ Bd hml0 hP hK
  obtain ⟨rfl, hZ, hh⟩ := hP
  have hx := Bd.exec
  have hby := Bd.bytes
  have hml : c.maxLocals = 2 := hml0
  have hown : s.vm.findClass "java/lang/String" = some m.cls := findClass_of_methodNamed Bd.named
  have hnm := (name_of_methodNamed Bd.named Bd.method).1
  have X0 : Stand p l e ({ frames := 3, cells := 0, slots := 0, locals := 40 } : Room) s m #[(.ref a1), (.int (0 : Int32))] below meth c s₁ [] 0 0 := Stand.of_body Bd
  have hS0 : s.Since s.vm 0 := (State.WarmedH.refl s).since 0
  have hk0 : 0 ≤ h0.size := Nat.zero_le _
  have hlk := Bd.notSynchronized
  have e0 : s₁.heap = h0 := by rw [← hh, Bd.state]; rfl
  have N0 := Fr.nil n0
  have pre0 : ∀ t, Steps p.tables e below (s₁.setTop (mkF m 0 #[.val (.ref a1), .val (.int (0 : Int32))] [])) t → Steps p.tables e below (s₁.setTop (entryFrame m #[(.ref a1), (.int (0 : Int32))] 2)) t := fun t k => castTop (own_vA0_ef18 m a1) k
  obtain ⟨cq1, kq1, q1a, q1b, q1c⟩ := isOf hZ e0 E_a1
  obtain ⟨v1, _, ⟨T1, L1, k1, n1⟩, -, X1, ⟨Lc1, hQ1, l1, y1, z1⟩, st1⟩ := X0.virtualBack hx (y := (⟨"java/lang/String", "isLatin1", "()Z"⟩ : MethodName)) (z := (⟨"java/lang/String", "isLatin1", "()Z"⟩ : MethodName)) hown (mvT hZ (hw _ (List.mem_of_getElem? (i := 83) rfl))) (mvT hZ (hw _ (List.mem_of_getElem? (i := 84) rfl))) (notFace_of_selects (args := #[]) (mvT hZ (hw _ (List.mem_of_getElem? (i := 86) rfl)))) (mvT hZ (hw _ (List.mem_of_getElem? (i := 86) rfl))) (mvT hZ (hw _ (List.mem_of_getElem? (i := 85) rfl))) (by decide) (backOf (W := 0) (own_rm19 l Z a0 hw [] a1 w_COMPACT_STRINGS h0 n0 Z0 O0 hcs S_COMPACT_STRINGS F_coder_a1) hZ (hw _ (List.mem_of_getElem? (i := 87) rfl)) (hw _ (List.mem_of_getElem? (i := 16) rfl)) (by decide) (by decide)) q1a q1c (g := (mkF m 1 #[.val (.ref a1), .val (.int (0 : Int32))] [(.ref a1)])) rfl (by rw [hml]; rfl) (Steps.refl _) (argsL := []) (rest := []) (lenOf own_pd205 rfl) rfl (by show 2 * 0 + _ ≤ _; exact Nat.le_of_eq rfl) (hb hby own_d18_1) (fun _ _ => ⟨rfl, e0, (by decide : 0 + 0 ≤ _), (by decide : 0 + 0 ≤ _)⟩)
  dsimp only [Pt.U, Pt.locs, Pt.cells, Pt.slots] at X1 l1 y1 z1 st1 hQ1
  subst l1 y1 z1
  obtain ⟨hv1, N1q, e1⟩ := hQ1
  have N2 := Fr.app N0 N1q
  rw [show (own_f19) = (1 : Int32) from by first | rfl | decide | simp [own_f19]] at hv1
  subst hv1
  obtain ⟨T3, X3, e3, st3⟩ := getF X1 hx hZ hown (host := "") (Or.inl (hw _ (List.mem_of_getElem? (i := 41) rfl))) Via.refl e1 F_value_a1 (g := (mkF m 8 #[.val (.ref a1), .val (.int (0 : Int32))] [(.ref a1)])) rfl rfl (hb hby own_d18_8)
  obtain ⟨v4, _, ⟨T4, L4, k4, n4⟩, -, X4, ⟨Lc4, hQ4, l4, y4, z4⟩, st4⟩ := Jvm.LawKit.callS X3 hx (y := (⟨"java/lang/StringLatin1", "charAt", "([BI)C"⟩ : MethodName)) hown (mvT hZ (hw _ (List.mem_of_getElem? (i := 88) rfl))) (mvT hZ (hw _ (List.mem_of_getElem? (i := 89) rfl))) (mvT hZ (hw _ (List.mem_of_getElem? (i := 90) rfl))) (mvT hZ (hw _ (List.mem_of_getElem? (i := 91) rfl))) (by decide) (backOf (W := 0) (own_vA0_rm20 l Z a0 hw [] w_value_a1 k_w_value_a1 y0 w_SIOOBE_FORMATTER h0 n0 Z0 O0 V_w_value_a1 hrf S_SIOOBE_FORMATTER) hZ (hw _ (List.mem_of_getElem? (i := 91) rfl)) (hw _ (List.mem_of_getElem? (i := 90) rfl)) (by decide) (by decide)) (g := (mkF m 12 #[.val (.ref a1), .val (.int (0 : Int32))] [(.int (0 : Int32)), (.ref w_value_a1)])) rfl (by rw [hml]; rfl) (argsL := [(.ref w_value_a1), (.int (0 : Int32))]) (rest := []) (lenOf own_pd206 rfl) rfl (by show 2 * 0 + _ ≤ _; exact Nat.le_of_eq rfl) (hb hby own_d18_12) (fun _ _ => ⟨rfl, e3, (by decide : 0 + 0 ≤ _), (by decide : 0 + 0 ≤ _)⟩)
  dsimp only [Pt.U, Pt.locs, Pt.cells, Pt.slots] at X4 l4 y4 z4 st4 hQ4
  subst l4 y4 z4
  obtain ⟨rfl, N4q, e4⟩ := hQ4
  have N5 := Fr.app N2 N4q
  obtain ⟨fs, hr, hrun, hended, hW, hsame⟩ := X4.leave (hlocks := hlk) (v := some (.int (nar .char (own_vA0_f20 y0)))) (fun h => by rw [Bd.returns] at h; cases h)
  refine ⟨_, _, pre0 _ ?_, hrun, hended, _, _, rfl, ?_, ⟨_, rfl⟩, hW, hsame.mono (by decide) (by decide)⟩
  · show Steps p.tables e below (s₁.setTop (mkF m 0 #[.val (.ref a1), .val (.int (0 : Int32))] [])) _
    refine XS.aloadN X0.here hx rfl (hb hby own_d18_0) rfl rfl ?_
    show Steps p.tables e below (s₁.setTop (mkF m 1 #[.val (.ref a1), .val (.int (0 : Int32))] [(.ref a1)])) _
    refine st1.trans ?_
    show Steps p.tables e below (T1.setTop (mkF m 4 #[.val (.ref a1), .val (.int (0 : Int32))] [(.int (1 : Int32))])) _
    refine XS.ifNo X1.here hx rfl (hb hby own_d18_4) rfl ((if0 _ _).trans (feq (by decide : ¬ ((1 : Int32) = (0 : Int32)))).1) ?_
    show Steps p.tables e below (T1.setTop (mkF m 7 #[.val (.ref a1), .val (.int (0 : Int32))] [])) _
    refine XS.aloadN X1.here hx rfl (hb hby own_d18_7) rfl rfl ?_
    show Steps p.tables e below (T1.setTop (mkF m 8 #[.val (.ref a1), .val (.int (0 : Int32))] [(.ref a1)])) _
    refine st3 _ ?_
    show Steps p.tables e below (T3.setTop (mkF m 11 #[.val (.ref a1), .val (.int (0 : Int32))] [(.ref w_value_a1)])) _
    refine XS.iloadN X3.here hx rfl (hb hby own_d18_11) rfl ?_
    show Steps p.tables e below (T3.setTop (mkF m 12 #[.val (.ref a1), .val (.int (0 : Int32))] [(.int (0 : Int32)), (.ref w_value_a1)])) _
    refine st4 _ ?_
    show Steps p.tables e below (T4.setTop (mkF m 15 #[.val (.ref a1), .val (.int (0 : Int32))] [(.int (own_vA0_f20 y0))])) _
    exact retN X4 hx (t := .char) Bd.returns (by simp) (hb hby own_d18_15) hr
  · show own_vA0_Q18 Z a1 w_value_a1 k_w_value_a1 y0 w_COMPACT_STRINGS w_SIOOBE_FORMATTER h0 n0 _ T4.heap _
    rw [e4]
    exact ⟨(by rw [own_vA0_f18]), N5, rfl⟩
-- body 18, variant B0
theorem own_vB0_ef18 (m : MethodId) (x0 : Addr) : entryFrame m #[(.ref x0), (.int (0 : Int32))] 2 = mkF m 0 #[.val (.ref x0), .val (.int (0 : Int32))] [] := by first | (simp [entryFrame, mkF, argsToLocals, Value.category]; done) | rfl
def own_vB0_f18 (y0 : Int32) : Int32 := (nar .char (own_vB0_f20 y0))
def own_vB0_Q18 (Z : State) (a1 : Addr) (w_value_a1 : Addr) (k_w_value_a1 : ClassId) (y0 : Int32) (y1 : Int32) (w_COMPACT_STRINGS : Int32) (w_SIOOBE_FORMATTER : Value) (h0 : Heap) (n0 : Nat) (v : Option Value) (h : Heap) (L : List Loc) : Prop := v = some (.int (own_vB0_f18 y0)) ∧ Fr n0 L ∧ h = h0
set_option maxRecDepth 65536 in
set_option maxHeartbeats 40000000 in
theorem own_vB0_rm18 (l : Launch) (Z : State) (a0 : Array Value) (hw : ∀ d ∈ tables_1, d.before a0 Z = true) (ws : List Jvm.Cond) (a1 : Addr) (w_value_a1 : Addr) (k_w_value_a1 : ClassId) (y0 : Int32) (y1 : Int32) (w_COMPACT_STRINGS : Int32) (w_SIOOBE_FORMATTER : Value) (h0 : Heap) (n0 : Nat) (Z0 : n0 ≤ h0.size) (O0 : Old Z n0 h0) (V_w_value_a1 : Arv Z h0 w_value_a1 k_w_value_a1 .byte (2 : Int32) [(.int y0), (.int y1)] (.int (0 : Int32))) (hcs : ¬ w_COMPACT_STRINGS = (0 : Int32)) (hrf : w_SIOOBE_FORMATTER.isRef = true) (S_COMPACT_STRINGS : Sta Z Z.heap "java/lang/String" "COMPACT_STRINGS" "Z" (.int w_COMPACT_STRINGS)) (F_coder_a1 : Fld Z h0 a1 "java/lang/String" "coder" "B" (.int (0 : Int32))) (E_a1 : Exa Z h0 a1 "java/lang/String") (F_value_a1 : Fld Z h0 a1 "java/lang/String" "value" "[B" (.ref w_value_a1)) (S_SIOOBE_FORMATTER : Sta Z Z.heap "jdk/internal/util/Preconditions" "SIOOBE_FORMATTER" "Ljava/util/function/BiFunction;" w_SIOOBE_FORMATTER) :
    MetFree l (⟨"java/lang/String", "charAt", "(I)C"⟩ : MethodName) (head1 (Jvm.Cond.code (⟨"java/lang/String", "charAt", "(I)C"⟩ : MethodName) jdk_42_method_56_code 2 (some .char) :: ws) ({ frames := 3, cells := 0, slots := 0, locals := 40 } : Room)) (fun a U => a = #[(.ref a1), (.int (0 : Int32))] ∧ Z.Warmed39 U.vm ∧ U.heap = h0) (fun _ _ _ _ _ => True) (fun _ U o U' => ∃ v L, o = .returned v ∧ own_vB0_Q18 Z a1 w_value_a1 k_w_value_a1 y0 y1 w_COMPACT_STRINGS w_SIOOBE_FORMATTER h0 n0 v U'.heap L ∧ FrameEnd U o U' L ({ frames := 3, cells := 0, slots := 0, locals := 40 } : Room).cells ({ frames := 3, cells := 0, slots := 0, locals := 40 } : Room).slots) := by
  refine MetFree.of_bodySF (plainFor_of_name own_pn79) hisR ?_
  intro p e s m args below meth c s₁ Bd hml0 hP hK
  obtain ⟨rfl, hZ, hh⟩ := hP
  have hx := Bd.exec
  have hby := Bd.bytes
  have hml : c.maxLocals = 2 := hml0
  have hown : s.vm.findClass "java/lang/String" = some m.cls := findClass_of_methodNamed Bd.named
  have hnm := (name_of_methodNamed Bd.named Bd.method).1
  have X0 : Stand p l e ({ frames := 3, cells := 0, slots := 0, locals := 40 } : Room) s m #[(.ref a1), (.int (0 : Int32))] below meth c s₁ [] 0 0 := Stand.of_body Bd
  have hS0 : s.Since s.vm 0 := (State.WarmedH.refl s).since 0
  have hk0 : 0 ≤ h0.size := Nat.zero_le _
  have hlk := Bd.notSynchronized
  have e0 : s₁.heap = h0 := by rw [← hh, Bd.state]; rfl
  have N0 := Fr.nil n0
  have pre0 : ∀ t, Steps p.tables e below (s₁.setTop (mkF m 0 #[.val (.ref a1), .val (.int (0 : Int32))] [])) t → Steps p.tables e below (s₁.setTop (entryFrame m #[(.ref a1), (.int (0 : Int32))] 2)) t := fun t k => castTop (own_vB0_ef18 m a1) k
  obtain ⟨cq1, kq1, q1a, q1b, q1c⟩ := isOf hZ e0 E_a1
  obtain ⟨v1, _, ⟨T1, L1, k1, n1⟩, -, X1, ⟨Lc1, hQ1, l1, y1, z1⟩, st1⟩ := X0.virtualBack hx (y := (⟨"java/lang/String", "isLatin1", "()Z"⟩ : MethodName)) (z := (⟨"java/lang/String", "isLatin1", "()Z"⟩ : MethodName)) hown (mvT hZ (hw _ (List.mem_of_getElem? (i := 83) rfl))) (mvT hZ (hw _ (List.mem_of_getElem? (i := 84) rfl))) (notFace_of_selects (args := #[]) (mvT hZ (hw _ (List.mem_of_getElem? (i := 86) rfl)))) (mvT hZ (hw _ (List.mem_of_getElem? (i := 86) rfl))) (mvT hZ (hw _ (List.mem_of_getElem? (i := 85) rfl))) (by decide) (backOf (W := 0) (own_rm19 l Z a0 hw [] a1 w_COMPACT_STRINGS h0 n0 Z0 O0 hcs S_COMPACT_STRINGS F_coder_a1) hZ (hw _ (List.mem_of_getElem? (i := 87) rfl)) (hw _ (List.mem_of_getElem? (i := 16) rfl)) (by decide) (by decide)) q1a q1c (g := (mkF m 1 #[.val (.ref a1), .val (.int (0 : Int32))] [(.ref a1)])) rfl (by rw [hml]; rfl) (Steps.refl _) (argsL := []) (rest := []) (lenOf own_pd205 rfl) rfl (by show 2 * 0 + _ ≤ _; exact Nat.le_of_eq rfl) (hb hby own_d18_1) (fun _ _ => ⟨rfl, e0, (by decide : 0 + 0 ≤ _), (by decide : 0 + 0 ≤ _)⟩)
  dsimp only [Pt.U, Pt.locs, Pt.cells, Pt.slots] at X1 l1 y1 z1 st1 hQ1
  subst l1 y1 z1
  obtain ⟨hv1, N1q, e1⟩ := hQ1
  have N2 := Fr.app N0 N1q
  rw [show (own_f19) = (1 : Int32) from by first | rfl | decide | simp [own_f19]] at hv1
  subst hv1
  obtain ⟨T3, X3, e3, st3⟩ := getF X1 hx hZ hown (host := "") (Or.inl (hw _ (List.mem_of_getElem? (i := 41) rfl))) Via.refl e1 F_value_a1 (g := (mkF m 8 #[.val (.ref a1), .val (.int (0 : Int32))] [(.ref a1)])) rfl rfl (hb hby own_d18_8)
  obtain ⟨v4, _, ⟨T4, L4, k4, n4⟩, -, X4, ⟨Lc4, hQ4, l4, y4, z4⟩, st4⟩ := Jvm.LawKit.callS X3 hx (y := (⟨"java/lang/StringLatin1", "charAt", "([BI)C"⟩ : MethodName)) hown (mvT hZ (hw _ (List.mem_of_getElem? (i := 88) rfl))) (mvT hZ (hw _ (List.mem_of_getElem? (i := 89) rfl))) (mvT hZ (hw _ (List.mem_of_getElem? (i := 90) rfl))) (mvT hZ (hw _ (List.mem_of_getElem? (i := 91) rfl))) (by decide) (backOf (W := 0) (own_vB0_rm20 l Z a0 hw [] w_value_a1 k_w_value_a1 y0 y1 w_SIOOBE_FORMATTER h0 n0 Z0 O0 V_w_value_a1 hrf S_SIOOBE_FORMATTER) hZ (hw _ (List.mem_of_getElem? (i := 91) rfl)) (hw _ (List.mem_of_getElem? (i := 90) rfl)) (by decide) (by decide)) (g := (mkF m 12 #[.val (.ref a1), .val (.int (0 : Int32))] [(.int (0 : Int32)), (.ref w_value_a1)])) rfl (by rw [hml]; rfl) (argsL := [(.ref w_value_a1), (.int (0 : Int32))]) (rest := []) (lenOf own_pd206 rfl) rfl (by show 2 * 0 + _ ≤ _; exact Nat.le_of_eq rfl) (hb hby own_d18_12) (fun _ _ => ⟨rfl, e3, (by decide : 0 + 0 ≤ _), (by decide : 0 + 0 ≤ _)⟩)
  dsimp only [Pt.U, Pt.locs, Pt.cells, Pt.slots] at X4 l4 y4 z4 st4 hQ4
  subst l4 y4 z4
  obtain ⟨rfl, N4q, e4⟩ := hQ4
  have N5 := Fr.app N2 N4q
  obtain ⟨fs, hr, hrun, hended, hW, hsame⟩ := X4.leave (hlocks := hlk) (v := some (.int (nar .char (own_vB0_f20 y0)))) (fun h => by rw [Bd.returns] at h; cases h)
  refine ⟨_, _, pre0 _ ?_, hrun, hended, _, _, rfl, ?_, ⟨_, rfl⟩, hW, hsame.mono (by decide) (by decide)⟩
  · show Steps p.tables e below (s₁.setTop (mkF m 0 #[.val (.ref a1), .val (.int (0 : Int32))] [])) _
    refine XS.aloadN X0.here hx rfl (hb hby own_d18_0) rfl rfl ?_
    show Steps p.tables e below (s₁.setTop (mkF m 1 #[.val (.ref a1), .val (.int (0 : Int32))] [(.ref a1)])) _
    refine st1.trans ?_
    show Steps p.tables e below (T1.setTop (mkF m 4 #[.val (.ref a1), .val (.int (0 : Int32))] [(.int (1 : Int32))])) _
    refine XS.ifNo X1.here hx rfl (hb hby own_d18_4) rfl ((if0 _ _).trans (feq (by decide : ¬ ((1 : Int32) = (0 : Int32)))).1) ?_
    show Steps p.tables e below (T1.setTop (mkF m 7 #[.val (.ref a1), .val (.int (0 : Int32))] [])) _
    refine XS.aloadN X1.here hx rfl (hb hby own_d18_7) rfl rfl ?_
    show Steps p.tables e below (T1.setTop (mkF m 8 #[.val (.ref a1), .val (.int (0 : Int32))] [(.ref a1)])) _
    refine st3 _ ?_
    show Steps p.tables e below (T3.setTop (mkF m 11 #[.val (.ref a1), .val (.int (0 : Int32))] [(.ref w_value_a1)])) _
    refine XS.iloadN X3.here hx rfl (hb hby own_d18_11) rfl ?_
    show Steps p.tables e below (T3.setTop (mkF m 12 #[.val (.ref a1), .val (.int (0 : Int32))] [(.int (0 : Int32)), (.ref w_value_a1)])) _
    refine st4 _ ?_
    show Steps p.tables e below (T4.setTop (mkF m 15 #[.val (.ref a1), .val (.int (0 : Int32))] [(.int (own_vB0_f20 y0))])) _
    exact retN X4 hx (t := .char) Bd.returns (by simp) (hb hby own_d18_15) hr
  · show own_vB0_Q18 Z a1 w_value_a1 k_w_value_a1 y0 y1 w_COMPACT_STRINGS w_SIOOBE_FORMATTER h0 n0 _ T4.heap _
    rw [e4]
    exact ⟨(by rw [own_vB0_f18]), N5, rfl⟩
-- body 18, variant B1
theorem own_vB1_ef18 (m : MethodId) (x0 : Addr) : entryFrame m #[(.ref x0), (.int (1 : Int32))] 2 = mkF m 0 #[.val (.ref x0), .val (.int (1 : Int32))] [] := by first | (simp [entryFrame, mkF, argsToLocals, Value.category]; done) | rfl
def own_vB1_f18 (y1 : Int32) : Int32 := (nar .char (own_vB1_f20 y1))
def own_vB1_Q18 (Z : State) (a1 : Addr) (w_value_a1 : Addr) (k_w_value_a1 : ClassId) (y0 : Int32) (y1 : Int32) (w_COMPACT_STRINGS : Int32) (w_SIOOBE_FORMATTER : Value) (h0 : Heap) (n0 : Nat) (v : Option Value) (h : Heap) (L : List Loc) : Prop := v = some (.int (own_vB1_f18 y1)) ∧ Fr n0 L ∧ h = h0
set_option maxRecDepth 65536 in
set_option maxHeartbeats 40000000 in
theorem own_vB1_rm18 (l : Launch) (Z : State) (a0 : Array Value) (hw : ∀ d ∈ tables_1, d.before a0 Z = true) (ws : List Jvm.Cond) (a1 : Addr) (w_value_a1 : Addr) (k_w_value_a1 : ClassId) (y0 : Int32) (y1 : Int32) (w_COMPACT_STRINGS : Int32) (w_SIOOBE_FORMATTER : Value) (h0 : Heap) (n0 : Nat) (Z0 : n0 ≤ h0.size) (O0 : Old Z n0 h0) (V_w_value_a1 : Arv Z h0 w_value_a1 k_w_value_a1 .byte (2 : Int32) [(.int y0), (.int y1)] (.int (0 : Int32))) (hcs : ¬ w_COMPACT_STRINGS = (0 : Int32)) (hrf : w_SIOOBE_FORMATTER.isRef = true) (S_COMPACT_STRINGS : Sta Z Z.heap "java/lang/String" "COMPACT_STRINGS" "Z" (.int w_COMPACT_STRINGS)) (F_coder_a1 : Fld Z h0 a1 "java/lang/String" "coder" "B" (.int (0 : Int32))) (E_a1 : Exa Z h0 a1 "java/lang/String") (F_value_a1 : Fld Z h0 a1 "java/lang/String" "value" "[B" (.ref w_value_a1)) (S_SIOOBE_FORMATTER : Sta Z Z.heap "jdk/internal/util/Preconditions" "SIOOBE_FORMATTER" "Ljava/util/function/BiFunction;" w_SIOOBE_FORMATTER) :
    MetFree l (⟨"java/lang/String", "charAt", "(I)C"⟩ : MethodName) (head1 (Jvm.Cond.code (⟨"java/lang/String", "charAt", "(I)C"⟩ : MethodName) jdk_42_method_56_code 2 (some .char) :: ws) ({ frames := 3, cells := 0, slots := 0, locals := 40 } : Room)) (fun a U => a = #[(.ref a1), (.int (1 : Int32))] ∧ Z.Warmed39 U.vm ∧ U.heap = h0) (fun _ _ _ _ _ => True) (fun _ U o U' => ∃ v L, o = .returned v ∧ own_vB1_Q18 Z a1 w_value_a1 k_w_value_a1 y0 y1 w_COMPACT_STRINGS w_SIOOBE_FORMATTER h0 n0 v U'.heap L ∧ FrameEnd U o U' L ({ frames := 3, cells := 0, slots := 0, locals := 40 } : Room).cells ({ frames := 3, cells := 0, slots := 0, locals := 40 } : Room).slots) := by
  refine MetFree.of_bodySF (plainFor_of_name own_pn79) hisR ?_
  intro p e s m args below meth c s₁ Bd hml0 hP hK
  obtain ⟨rfl, hZ, hh⟩ := hP
  have hx := Bd.exec
  have hby := Bd.bytes
  have hml : c.maxLocals = 2 := hml0
  have hown : s.vm.findClass "java/lang/String" = some m.cls := findClass_of_methodNamed Bd.named
  have hnm := (name_of_methodNamed Bd.named Bd.method).1
  have X0 : Stand p l e ({ frames := 3, cells := 0, slots := 0, locals := 40 } : Room) s m #[(.ref a1), (.int (1 : Int32))] below meth c s₁ [] 0 0 := Stand.of_body Bd
  have hS0 : s.Since s.vm 0 := (State.WarmedH.refl s).since 0
  have hk0 : 0 ≤ h0.size := Nat.zero_le _
  have hlk := Bd.notSynchronized
  have e0 : s₁.heap = h0 := by rw [← hh, Bd.state]; rfl
  have N0 := Fr.nil n0
  have pre0 : ∀ t, Steps p.tables e below (s₁.setTop (mkF m 0 #[.val (.ref a1), .val (.int (1 : Int32))] [])) t → Steps p.tables e below (s₁.setTop (entryFrame m #[(.ref a1), (.int (1 : Int32))] 2)) t := fun t k => castTop (own_vB1_ef18 m a1) k
  obtain ⟨cq1, kq1, q1a, q1b, q1c⟩ := isOf hZ e0 E_a1
  obtain ⟨v1, _, ⟨T1, L1, k1, n1⟩, -, X1, ⟨Lc1, hQ1, l1, y1, z1⟩, st1⟩ := X0.virtualBack hx (y := (⟨"java/lang/String", "isLatin1", "()Z"⟩ : MethodName)) (z := (⟨"java/lang/String", "isLatin1", "()Z"⟩ : MethodName)) hown (mvT hZ (hw _ (List.mem_of_getElem? (i := 83) rfl))) (mvT hZ (hw _ (List.mem_of_getElem? (i := 84) rfl))) (notFace_of_selects (args := #[]) (mvT hZ (hw _ (List.mem_of_getElem? (i := 86) rfl)))) (mvT hZ (hw _ (List.mem_of_getElem? (i := 86) rfl))) (mvT hZ (hw _ (List.mem_of_getElem? (i := 85) rfl))) (by decide) (backOf (W := 0) (own_rm19 l Z a0 hw [] a1 w_COMPACT_STRINGS h0 n0 Z0 O0 hcs S_COMPACT_STRINGS F_coder_a1) hZ (hw _ (List.mem_of_getElem? (i := 87) rfl)) (hw _ (List.mem_of_getElem? (i := 16) rfl)) (by decide) (by decide)) q1a q1c (g := (mkF m 1 #[.val (.ref a1), .val (.int (1 : Int32))] [(.ref a1)])) rfl (by rw [hml]; rfl) (Steps.refl _) (argsL := []) (rest := []) (lenOf own_pd205 rfl) rfl (by show 2 * 0 + _ ≤ _; exact Nat.le_of_eq rfl) (hb hby own_d18_1) (fun _ _ => ⟨rfl, e0, (by decide : 0 + 0 ≤ _), (by decide : 0 + 0 ≤ _)⟩)
  dsimp only [Pt.U, Pt.locs, Pt.cells, Pt.slots] at X1 l1 y1 z1 st1 hQ1
  subst l1 y1 z1
  obtain ⟨hv1, N1q, e1⟩ := hQ1
  have N2 := Fr.app N0 N1q
  rw [show (own_f19) = (1 : Int32) from by first | rfl | decide | simp [own_f19]] at hv1
  subst hv1
  obtain ⟨T3, X3, e3, st3⟩ := getF X1 hx hZ hown (host := "") (Or.inl (hw _ (List.mem_of_getElem? (i := 41) rfl))) Via.refl e1 F_value_a1 (g := (mkF m 8 #[.val (.ref a1), .val (.int (1 : Int32))] [(.ref a1)])) rfl rfl (hb hby own_d18_8)
  obtain ⟨v4, _, ⟨T4, L4, k4, n4⟩, -, X4, ⟨Lc4, hQ4, l4, y4, z4⟩, st4⟩ := Jvm.LawKit.callS X3 hx (y := (⟨"java/lang/StringLatin1", "charAt", "([BI)C"⟩ : MethodName)) hown (mvT hZ (hw _ (List.mem_of_getElem? (i := 88) rfl))) (mvT hZ (hw _ (List.mem_of_getElem? (i := 89) rfl))) (mvT hZ (hw _ (List.mem_of_getElem? (i := 90) rfl))) (mvT hZ (hw _ (List.mem_of_getElem? (i := 91) rfl))) (by decide) (backOf (W := 0) (own_vB1_rm20 l Z a0 hw [] w_value_a1 k_w_value_a1 y0 y1 w_SIOOBE_FORMATTER h0 n0 Z0 O0 V_w_value_a1 hrf S_SIOOBE_FORMATTER) hZ (hw _ (List.mem_of_getElem? (i := 91) rfl)) (hw _ (List.mem_of_getElem? (i := 90) rfl)) (by decide) (by decide)) (g := (mkF m 12 #[.val (.ref a1), .val (.int (1 : Int32))] [(.int (1 : Int32)), (.ref w_value_a1)])) rfl (by rw [hml]; rfl) (argsL := [(.ref w_value_a1), (.int (1 : Int32))]) (rest := []) (lenOf own_pd206 rfl) rfl (by show 2 * 0 + _ ≤ _; exact Nat.le_of_eq rfl) (hb hby own_d18_12) (fun _ _ => ⟨rfl, e3, (by decide : 0 + 0 ≤ _), (by decide : 0 + 0 ≤ _)⟩)
  dsimp only [Pt.U, Pt.locs, Pt.cells, Pt.slots] at X4 l4 y4 z4 st4 hQ4
  subst l4 y4 z4
  obtain ⟨rfl, N4q, e4⟩ := hQ4
  have N5 := Fr.app N2 N4q
  obtain ⟨fs, hr, hrun, hended, hW, hsame⟩ := X4.leave (hlocks := hlk) (v := some (.int (nar .char (own_vB1_f20 y1)))) (fun h => by rw [Bd.returns] at h; cases h)
  refine ⟨_, _, pre0 _ ?_, hrun, hended, _, _, rfl, ?_, ⟨_, rfl⟩, hW, hsame.mono (by decide) (by decide)⟩
  · show Steps p.tables e below (s₁.setTop (mkF m 0 #[.val (.ref a1), .val (.int (1 : Int32))] [])) _
    refine XS.aloadN X0.here hx rfl (hb hby own_d18_0) rfl rfl ?_
    show Steps p.tables e below (s₁.setTop (mkF m 1 #[.val (.ref a1), .val (.int (1 : Int32))] [(.ref a1)])) _
    refine st1.trans ?_
    show Steps p.tables e below (T1.setTop (mkF m 4 #[.val (.ref a1), .val (.int (1 : Int32))] [(.int (1 : Int32))])) _
    refine XS.ifNo X1.here hx rfl (hb hby own_d18_4) rfl ((if0 _ _).trans (feq (by decide : ¬ ((1 : Int32) = (0 : Int32)))).1) ?_
    show Steps p.tables e below (T1.setTop (mkF m 7 #[.val (.ref a1), .val (.int (1 : Int32))] [])) _
    refine XS.aloadN X1.here hx rfl (hb hby own_d18_7) rfl rfl ?_
    show Steps p.tables e below (T1.setTop (mkF m 8 #[.val (.ref a1), .val (.int (1 : Int32))] [(.ref a1)])) _
    refine st3 _ ?_
    show Steps p.tables e below (T3.setTop (mkF m 11 #[.val (.ref a1), .val (.int (1 : Int32))] [(.ref w_value_a1)])) _
    refine XS.iloadN X3.here hx rfl (hb hby own_d18_11) rfl ?_
    show Steps p.tables e below (T3.setTop (mkF m 12 #[.val (.ref a1), .val (.int (1 : Int32))] [(.int (1 : Int32)), (.ref w_value_a1)])) _
    refine st4 _ ?_
    show Steps p.tables e below (T4.setTop (mkF m 15 #[.val (.ref a1), .val (.int (1 : Int32))] [(.int (own_vB1_f20 y1))])) _
    exact retN X4 hx (t := .char) Bd.returns (by simp) (hb hby own_d18_15) hr
  · show own_vB1_Q18 Z a1 w_value_a1 k_w_value_a1 y0 y1 w_COMPACT_STRINGS w_SIOOBE_FORMATTER h0 n0 _ T4.heap _
    rw [e4]
    exact ⟨(by rw [own_vB1_f18]), N5, rfl⟩
def own_good (y : Int32) : Prop := ¬ own_vA0_f18 y = 32 ∧ ¬ own_vA0_f18 y = 9 ∧ ¬ own_vA0_f18 y = 10 ∧ own_vA0_f18 y < 55296 ∧ own_vA0_f18 y < 56320
def own_okS (N : Int32) (B : List Value) : Prop := (∃ y0, N = 1 ∧ B = [.int y0] ∧ own_good y0) ∨ (∃ y0 y1, N = 2 ∧ B = [.int y0, .int y1] ∧ own_good y0 ∧ own_good y1)
instance own_dg (y : Int32) : Decidable (own_good y) := by unfold own_good; infer_instance
theorem own_gda : ∀ k : Fin 256, own_good (nar .byte ((nar .char (own_g (Int32.ofNat k.val))).toInt8.toInt32)) := by decide +kernel
theorem own_gd (p : Int32) : own_good (own_bt p) := by
  obtain ⟨k, h⟩ := own_f3g p
  unfold own_bt
  rw [h]; exact own_gda k
theorem own_okN (p : Int32) : own_okS (own_N p) (own_bs p) := by
  by_cases h : own_f2 p = 1
  · exact Or.inl ⟨_, own_Nt h, own_bst h, own_gd _⟩
  · exact Or.inr ⟨_, _, own_Nf h, own_bsf h, own_gd _, own_gd _⟩
-- body 24
theorem own_d24_0 : decode jdk_89_method_14_code 0 = .ok (.iload_n 0, 1) := by decide +kernel
theorem own_d24_1 : decode jdk_89_method_14_code 1 = .ok (.ldc 75, 2) := by decide +kernel
theorem own_d24_3 : decode jdk_89_method_14_code 3 = .ok (.if_icmp .lt 13, 3) := by decide +kernel
theorem own_d24_16 : decode jdk_89_method_14_code 16 = .ok (.iconst 0, 1) := by decide +kernel
theorem own_d24_17 : decode jdk_89_method_14_code 17 = .ok (.ireturn, 1) := by decide +kernel
theorem own_ef24 (m : MethodId) (x0 : Int32) : entryFrame m #[(.int x0)] 1 = mkF m 0 #[.val (.int x0)] [] := by first | (simp [entryFrame, mkF, argsToLocals, Value.category]; done) | rfl
def own_f24 : Int32 := (0 : Int32)
def own_Q24 (Z : State) (p1 : Int32) (h0 : Heap) (n0 : Nat) (v : Option Value) (h : Heap) (L : List Loc) : Prop := v = some (.int (own_f24)) ∧ Fr n0 L ∧ h = h0
set_option maxRecDepth 65536 in
set_option maxHeartbeats 40000000 in
theorem own_rm24 (l : Launch) (Z : State) (a0 : Array Value) (hw : ∀ d ∈ tables_1, d.before a0 Z = true) (ws : List Jvm.Cond) (p1 : Int32) (h0 : Heap) (n0 : Nat) (Z0 : n0 ≤ h0.size) (hlt : p1 < (55296 : Int32)) :
    MetFree l (⟨"java/lang/Character", "isHighSurrogate", "(C)Z"⟩ : MethodName) (head1 (Jvm.Cond.code (⟨"java/lang/Character", "isHighSurrogate", "(C)Z"⟩ : MethodName) jdk_89_method_14_code 1 (some .boolean) :: ws) ({ frames := 0, cells := 0, slots := 0, locals := 0 } : Room)) (fun a U => a = #[(.int p1)] ∧ Z.Warmed39 U.vm ∧ U.heap = h0) (fun _ _ _ _ _ => True) (fun _ U o U' => ∃ v L, o = .returned v ∧ own_Q24 Z p1 h0 n0 v U'.heap L ∧ FrameEnd U o U' L ({ frames := 0, cells := 0, slots := 0, locals := 0 } : Room).cells ({ frames := 0, cells := 0, slots := 0, locals := 0 } : Room).slots) := by
  refine MetFree.of_bodySF (plainFor_of_name own_pn215) hisR ?_
  intro p e s m args below meth c s₁ Bd hml0 hP hK
  obtain ⟨rfl, hZ, hh⟩ := hP
  have hx := Bd.exec
  have hby := Bd.bytes
  have hml : c.maxLocals = 1 := hml0
  have hown : s.vm.findClass "java/lang/Character" = some m.cls := findClass_of_methodNamed Bd.named
  have hnm := (name_of_methodNamed Bd.named Bd.method).1
  have X0 : Stand p l e ({ frames := 0, cells := 0, slots := 0, locals := 0 } : Room) s m #[(.int p1)] below meth c s₁ [] 0 0 := Stand.of_body Bd
  have hS0 : s.Since s.vm 0 := (State.WarmedH.refl s).since 0
  have hk0 : 0 ≤ h0.size := Nat.zero_le _
  have hlk := Bd.notSynchronized
  have e0 : s₁.heap = h0 := by rw [← hh, Bd.state]; rfl
  have N0 := Fr.nil n0
  have pre0 : ∀ t, Steps p.tables e below (s₁.setTop (mkF m 0 #[.val (.int p1)] [])) t → Steps p.tables e below (s₁.setTop (entryFrame m #[(.int p1)] 1)) t := fun t k => castTop (own_ef24 m p1) k
  obtain ⟨fs, hr, hrun, hended, hW, hsame⟩ := X0.leave (hlocks := hlk) (v := some (.int (0 : Int32))) (fun h => by rw [Bd.returns] at h; cases h)
  refine ⟨_, _, pre0 _ ?_, hrun, hended, _, _, rfl, ?_, ⟨_, rfl⟩, hW, hsame.mono (by decide) (by decide)⟩
  · show Steps p.tables e below (s₁.setTop (mkF m 0 #[.val (.int p1)] [])) _
    refine XS.iloadN X0.here hx rfl (hb hby own_d24_0) rfl ?_
    show Steps p.tables e below (s₁.setTop (mkF m 1 #[.val (.int p1)] [(.int p1)])) _
    refine X0.ldcInt hx hown (mvT hZ (hw _ (List.mem_of_getElem? (i := 107) rfl))) (g := (mkF m 1 #[.val (.int p1)] [(.int p1)])) rfl (hb hby own_d24_1) _ ?_
    show Steps p.tables e below (s₁.setTop (mkF m 3 #[.val (.int p1)] [(.int (55296 : Int32)), (.int p1)])) _
    refine XS.icmpYes X0.here hx rfl (pc0 := 3) (pc' := 16) rfl (hb hby own_d24_3) rfl (tlt hlt).1 (by decide) (by decide) ?_
    show Steps p.tables e below (s₁.setTop (mkF m 16 #[.val (.int p1)] [])) _
    refine XS.iconst X0.here hx rfl (hb hby own_d24_16) ?_
    show Steps p.tables e below (s₁.setTop (mkF m 17 #[.val (.int p1)] [(.int (0 : Int32))])) _
    exact retN X0 hx (t := .boolean) Bd.returns (by simp) (hb hby own_d24_17) hr
  · show own_Q24 Z p1 h0 n0 _ s₁.heap _
    rw [e0]
    exact ⟨(by rw [own_f24]), N0, rfl⟩
-- body 25
theorem own_d25_0 : decode jdk_89_method_15_code 0 = .ok (.iload_n 0, 1) := by decide +kernel
theorem own_d25_1 : decode jdk_89_method_15_code 1 = .ok (.ldc 76, 2) := by decide +kernel
theorem own_d25_3 : decode jdk_89_method_15_code 3 = .ok (.if_icmp .lt 13, 3) := by decide +kernel
theorem own_d25_16 : decode jdk_89_method_15_code 16 = .ok (.iconst 0, 1) := by decide +kernel
theorem own_d25_17 : decode jdk_89_method_15_code 17 = .ok (.ireturn, 1) := by decide +kernel
theorem own_ef25 (m : MethodId) (x0 : Int32) : entryFrame m #[(.int x0)] 1 = mkF m 0 #[.val (.int x0)] [] := by first | (simp [entryFrame, mkF, argsToLocals, Value.category]; done) | rfl
def own_f25 : Int32 := (0 : Int32)
def own_Q25 (Z : State) (p1 : Int32) (h0 : Heap) (n0 : Nat) (v : Option Value) (h : Heap) (L : List Loc) : Prop := v = some (.int (own_f25)) ∧ Fr n0 L ∧ h = h0
set_option maxRecDepth 65536 in
set_option maxHeartbeats 40000000 in
theorem own_rm25 (l : Launch) (Z : State) (a0 : Array Value) (hw : ∀ d ∈ tables_1, d.before a0 Z = true) (ws : List Jvm.Cond) (p1 : Int32) (h0 : Heap) (n0 : Nat) (Z0 : n0 ≤ h0.size) (hlt : p1 < (56320 : Int32)) :
    MetFree l (⟨"java/lang/Character", "isLowSurrogate", "(C)Z"⟩ : MethodName) (head1 (Jvm.Cond.code (⟨"java/lang/Character", "isLowSurrogate", "(C)Z"⟩ : MethodName) jdk_89_method_15_code 1 (some .boolean) :: ws) ({ frames := 0, cells := 0, slots := 0, locals := 0 } : Room)) (fun a U => a = #[(.int p1)] ∧ Z.Warmed39 U.vm ∧ U.heap = h0) (fun _ _ _ _ _ => True) (fun _ U o U' => ∃ v L, o = .returned v ∧ own_Q25 Z p1 h0 n0 v U'.heap L ∧ FrameEnd U o U' L ({ frames := 0, cells := 0, slots := 0, locals := 0 } : Room).cells ({ frames := 0, cells := 0, slots := 0, locals := 0 } : Room).slots) := by
  refine MetFree.of_bodySF (plainFor_of_name own_pn215) hisR ?_
  intro p e s m args below meth c s₁ Bd hml0 hP hK
  obtain ⟨rfl, hZ, hh⟩ := hP
  have hx := Bd.exec
  have hby := Bd.bytes
  have hml : c.maxLocals = 1 := hml0
  have hown : s.vm.findClass "java/lang/Character" = some m.cls := findClass_of_methodNamed Bd.named
  have hnm := (name_of_methodNamed Bd.named Bd.method).1
  have X0 : Stand p l e ({ frames := 0, cells := 0, slots := 0, locals := 0 } : Room) s m #[(.int p1)] below meth c s₁ [] 0 0 := Stand.of_body Bd
  have hS0 : s.Since s.vm 0 := (State.WarmedH.refl s).since 0
  have hk0 : 0 ≤ h0.size := Nat.zero_le _
  have hlk := Bd.notSynchronized
  have e0 : s₁.heap = h0 := by rw [← hh, Bd.state]; rfl
  have N0 := Fr.nil n0
  have pre0 : ∀ t, Steps p.tables e below (s₁.setTop (mkF m 0 #[.val (.int p1)] [])) t → Steps p.tables e below (s₁.setTop (entryFrame m #[(.int p1)] 1)) t := fun t k => castTop (own_ef25 m p1) k
  obtain ⟨fs, hr, hrun, hended, hW, hsame⟩ := X0.leave (hlocks := hlk) (v := some (.int (0 : Int32))) (fun h => by rw [Bd.returns] at h; cases h)
  refine ⟨_, _, pre0 _ ?_, hrun, hended, _, _, rfl, ?_, ⟨_, rfl⟩, hW, hsame.mono (by decide) (by decide)⟩
  · show Steps p.tables e below (s₁.setTop (mkF m 0 #[.val (.int p1)] [])) _
    refine XS.iloadN X0.here hx rfl (hb hby own_d25_0) rfl ?_
    show Steps p.tables e below (s₁.setTop (mkF m 1 #[.val (.int p1)] [(.int p1)])) _
    refine X0.ldcInt hx hown (mvT hZ (hw _ (List.mem_of_getElem? (i := 111) rfl))) (g := (mkF m 1 #[.val (.int p1)] [(.int p1)])) rfl (hb hby own_d25_1) _ ?_
    show Steps p.tables e below (s₁.setTop (mkF m 3 #[.val (.int p1)] [(.int (56320 : Int32)), (.int p1)])) _
    refine XS.icmpYes X0.here hx rfl (pc0 := 3) (pc' := 16) rfl (hb hby own_d25_3) rfl (tlt hlt).1 (by decide) (by decide) ?_
    show Steps p.tables e below (s₁.setTop (mkF m 16 #[.val (.int p1)] [])) _
    refine XS.iconst X0.here hx rfl (hb hby own_d25_16) ?_
    show Steps p.tables e below (s₁.setTop (mkF m 17 #[.val (.int p1)] [(.int (0 : Int32))])) _
    exact retN X0 hx (t := .boolean) Bd.returns (by simp) (hb hby own_d25_17) hr
  · show own_Q25 Z p1 h0 n0 _ s₁.heap _
    rw [e0]
    exact ⟨(by rw [own_f25]), N0, rfl⟩
-- body 15, variant A
theorem own_d15_0 : decode prog_7_method_10_code 0 = .ok (.iconst 0, 1) := by decide +kernel
theorem own_d15_1 : decode prog_7_method_10_code 1 = .ok (.istore_n 1, 1) := by decide +kernel
theorem own_d15_2 : decode prog_7_method_10_code 2 = .ok (.iload_n 1, 1) := by decide +kernel
theorem own_d15_3 : decode prog_7_method_10_code 3 = .ok (.aload_n 0, 1) := by decide +kernel
theorem own_d15_4 : decode prog_7_method_10_code 4 = .ok (.invokevirtual 66, 3) := by decide +kernel
theorem own_d15_7 : decode prog_7_method_10_code 7 = .ok (.if_icmp .ge 35, 3) := by decide +kernel
theorem own_d15_10 : decode prog_7_method_10_code 10 = .ok (.aload_n 0, 1) := by decide +kernel
theorem own_d15_11 : decode prog_7_method_10_code 11 = .ok (.iload_n 1, 1) := by decide +kernel
theorem own_d15_12 : decode prog_7_method_10_code 12 = .ok (.invokevirtual 70, 3) := by decide +kernel
theorem own_d15_15 : decode prog_7_method_10_code 15 = .ok (.istore_n 2, 1) := by decide +kernel
theorem own_d15_16 : decode prog_7_method_10_code 16 = .ok (.iload_n 2, 1) := by decide +kernel
theorem own_d15_17 : decode prog_7_method_10_code 17 = .ok (.bipush 32, 2) := by decide +kernel
theorem own_d15_19 : decode prog_7_method_10_code 19 = .ok (.if_icmp .eq 15, 3) := by decide +kernel
theorem own_d15_22 : decode prog_7_method_10_code 22 = .ok (.iload_n 2, 1) := by decide +kernel
theorem own_d15_23 : decode prog_7_method_10_code 23 = .ok (.bipush 9, 2) := by decide +kernel
theorem own_d15_25 : decode prog_7_method_10_code 25 = .ok (.if_icmp .eq 9, 3) := by decide +kernel
theorem own_d15_28 : decode prog_7_method_10_code 28 = .ok (.iload_n 2, 1) := by decide +kernel
theorem own_d15_29 : decode prog_7_method_10_code 29 = .ok (.bipush 10, 2) := by decide +kernel
theorem own_d15_31 : decode prog_7_method_10_code 31 = .ok (.if_icmp .ne 5, 3) := by decide +kernel
theorem own_d15_36 : decode prog_7_method_10_code 36 = .ok (.iinc 1 1, 3) := by decide +kernel
theorem own_d15_39 : decode prog_7_method_10_code 39 = .ok (.goto (-37), 3) := by decide +kernel
theorem own_d15_42 : decode prog_7_method_10_code 42 = .ok (.iconst (-1), 1) := by decide +kernel
theorem own_d15_43 : decode prog_7_method_10_code 43 = .ok (.ireturn, 1) := by decide +kernel
theorem own_vA_ef15 (m : MethodId) (x0 : Addr) : entryFrame m #[(.ref x0)] 3 = mkF m 0 #[.val (.ref x0), .unset, .unset] [] := by first | (simp [entryFrame, mkF, argsToLocals, Value.category]; done) | rfl
def own_vA_f15 : Int32 := (-1 : Int32)
def own_vA_Q15 (Z : State) (a1 : Addr) (w_value_a1 : Addr) (k_w_value_a1 : ClassId) (y0 : Int32) (w_COMPACT_STRINGS : Int32) (w_SIOOBE_FORMATTER : Value) (h0 : Heap) (n0 : Nat) (v : Option Value) (h : Heap) (L : List Loc) : Prop := v = some (.int (own_vA_f15)) ∧ Fr n0 L ∧ h = h0
set_option maxRecDepth 65536 in
set_option maxHeartbeats 40000000 in
theorem own_vA_rm15 (l : Launch) (Z : State) (a0 : Array Value) (hw : ∀ d ∈ tables_1, d.before a0 Z = true) (ws : List Jvm.Cond) (a1 : Addr) (w_value_a1 : Addr) (k_w_value_a1 : ClassId) (y0 : Int32) (w_COMPACT_STRINGS : Int32) (w_SIOOBE_FORMATTER : Value) (h0 : Heap) (n0 : Nat) (Z0 : n0 ≤ h0.size) (O0 : Old Z n0 h0) (V_w_value_a1 : Arv Z h0 w_value_a1 k_w_value_a1 .byte (1 : Int32) [(.int y0)] (.int (0 : Int32))) (gd0 : own_good y0) (hcs : ¬ w_COMPACT_STRINGS = (0 : Int32)) (hrf : w_SIOOBE_FORMATTER.isRef = true) (S_COMPACT_STRINGS : Sta Z Z.heap "java/lang/String" "COMPACT_STRINGS" "Z" (.int w_COMPACT_STRINGS)) (F_value_a1 : Fld Z h0 a1 "java/lang/String" "value" "[B" (.ref w_value_a1)) (F_coder_a1 : Fld Z h0 a1 "java/lang/String" "coder" "B" (.int (0 : Int32))) (E_a1 : Exa Z h0 a1 "java/lang/String") (S_SIOOBE_FORMATTER : Sta Z Z.heap "jdk/internal/util/Preconditions" "SIOOBE_FORMATTER" "Ljava/util/function/BiFunction;" w_SIOOBE_FORMATTER) :
    MetFree l (⟨"com/example/nanshe/nanshe/engine/Request", "breakIn", "(Ljava/lang/String;)I"⟩ : MethodName) (head1 (Jvm.Cond.code (⟨"com/example/nanshe/nanshe/engine/Request", "breakIn", "(Ljava/lang/String;)I"⟩ : MethodName) prog_7_method_10_code 3 (some .int) :: ws) ({ frames := 4, cells := 0, slots := 0, locals := 53 } : Room)) (fun a U => a = #[(.ref a1)] ∧ Z.Warmed39 U.vm ∧ U.heap = h0) (fun _ _ _ _ _ => True) (fun _ U o U' => ∃ v L, o = .returned v ∧ own_vA_Q15 Z a1 w_value_a1 k_w_value_a1 y0 w_COMPACT_STRINGS w_SIOOBE_FORMATTER h0 n0 v U'.heap L ∧ FrameEnd U o U' L ({ frames := 4, cells := 0, slots := 0, locals := 53 } : Room).cells ({ frames := 4, cells := 0, slots := 0, locals := 53 } : Room).slots) := by
  refine MetFree.of_bodySF (plainFor_of_name own_pn227) hisR ?_
  intro p e s m args below meth c s₁ Bd hml0 hP hK
  obtain ⟨rfl, hZ, hh⟩ := hP
  have hx := Bd.exec
  have hby := Bd.bytes
  have hml : c.maxLocals = 3 := hml0
  have hown : s.vm.findClass "com/example/nanshe/nanshe/engine/Request" = some m.cls := findClass_of_methodNamed Bd.named
  have hnm := (name_of_methodNamed Bd.named Bd.method).1
  have X0 : Stand p l e ({ frames := 4, cells := 0, slots := 0, locals := 53 } : Room) s m #[(.ref a1)] below meth c s₁ [] 0 0 := Stand.of_body Bd
  have hS0 : s.Since s.vm 0 := (State.WarmedH.refl s).since 0
  have hk0 : 0 ≤ h0.size := Nat.zero_le _
  have hlk := Bd.notSynchronized
  have e0 : s₁.heap = h0 := by rw [← hh, Bd.state]; rfl
  have N0 := Fr.nil n0
  have pre0 : ∀ t, Steps p.tables e below (s₁.setTop (mkF m 0 #[.val (.ref a1), .unset, .unset] [])) t → Steps p.tables e below (s₁.setTop (entryFrame m #[(.ref a1)] 3)) t := fun t k => castTop (own_vA_ef15 m a1) k
  obtain ⟨cq1, kq1, q1a, q1b, q1c⟩ := isOf hZ e0 E_a1
  obtain ⟨v1, _, ⟨T1, L1, k1, n1⟩, -, X1, ⟨Lc1, hQ1, l1, y1, z1⟩, st1⟩ := X0.virtualBack hx (y := (⟨"java/lang/String", "length", "()I"⟩ : MethodName)) (z := (⟨"java/lang/String", "length", "()I"⟩ : MethodName)) hown (mvT hZ (hw _ (List.mem_of_getElem? (i := 68) rfl))) (mvT hZ (hw _ (List.mem_of_getElem? (i := 69) rfl))) (notFace_of_selects (args := #[]) (mvT hZ (hw _ (List.mem_of_getElem? (i := 71) rfl)))) (mvT hZ (hw _ (List.mem_of_getElem? (i := 71) rfl))) (mvT hZ (hw _ (List.mem_of_getElem? (i := 70) rfl))) (by decide) (backOf (W := 1) (own_vA_rm16 l Z a0 hw [] a1 w_value_a1 k_w_value_a1 y0 w_COMPACT_STRINGS h0 n0 Z0 O0 V_w_value_a1 hcs F_value_a1 S_COMPACT_STRINGS F_coder_a1 E_a1) hZ (hw _ (List.mem_of_getElem? (i := 72) rfl)) (hw _ (List.mem_of_getElem? (i := 16) rfl)) (by decide) (by decide)) q1a q1c (g := (mkF m 4 #[.val (.ref a1), .val (.int (0 : Int32)), .unset] [(.ref a1), (.int (0 : Int32))])) rfl (by rw [hml]; rfl) (Steps.refl _) (argsL := []) (rest := [(.int (0 : Int32))]) (lenOf own_pd226 rfl) rfl (by show 2 * 0 + _ ≤ _; exact Nat.le_of_eq rfl) (hb hby own_d15_4) (fun _ _ => ⟨rfl, e0, (by decide : 0 + 0 ≤ _), (by decide : 0 + 0 ≤ _)⟩)
  dsimp only [Pt.U, Pt.locs, Pt.cells, Pt.slots] at X1 l1 y1 z1 st1 hQ1
  subst l1 y1 z1
  obtain ⟨hv1, N1q, e1⟩ := hQ1
  have N2 := Fr.app N0 N1q
  rw [show (own_vA_f16) = (1 : Int32) from by first | rfl | decide | simp [own_vA_f16]] at hv1
  subst hv1
  obtain ⟨cq3, kq3, q3a, q3b, q3c⟩ := isOf hZ e1 E_a1
  obtain ⟨v3, _, ⟨T3, L3, k3, n3⟩, -, X3, ⟨Lc3, hQ3, l3, y3, z3⟩, st3⟩ := X1.virtualBack hx (y := (⟨"java/lang/String", "charAt", "(I)C"⟩ : MethodName)) (z := (⟨"java/lang/String", "charAt", "(I)C"⟩ : MethodName)) hown (mvT hZ (hw _ (List.mem_of_getElem? (i := 78) rfl))) (mvT hZ (hw _ (List.mem_of_getElem? (i := 79) rfl))) (notFace_of_selects (args := #[]) (mvT hZ (hw _ (List.mem_of_getElem? (i := 81) rfl)))) (mvT hZ (hw _ (List.mem_of_getElem? (i := 81) rfl))) (mvT hZ (hw _ (List.mem_of_getElem? (i := 80) rfl))) (by decide) (backOf (W := 0) (own_vA0_rm18 l Z a0 hw [] a1 w_value_a1 k_w_value_a1 y0 w_COMPACT_STRINGS w_SIOOBE_FORMATTER h0 n0 Z0 O0 V_w_value_a1 hcs hrf S_COMPACT_STRINGS F_coder_a1 E_a1 F_value_a1 S_SIOOBE_FORMATTER) hZ (hw _ (List.mem_of_getElem? (i := 82) rfl)) (hw _ (List.mem_of_getElem? (i := 16) rfl)) (by decide) (by decide)) q3a q3c (g := (mkF m 12 #[.val (.ref a1), .val (.int (0 : Int32)), .unset] [(.int (0 : Int32)), (.ref a1)])) rfl (by rw [hml]; rfl) (Steps.refl _) (argsL := [(.int (0 : Int32))]) (rest := []) (lenOf own_pd110 rfl) rfl (by show 2 * 0 + _ ≤ _; exact Nat.le_of_eq rfl) (hb hby own_d15_12) (fun _ _ => ⟨rfl, e1, (by decide : 0 + 0 ≤ _), (by decide : 0 + 0 ≤ _)⟩)
  dsimp only [Pt.U, Pt.locs, Pt.cells, Pt.slots] at X3 l3 y3 z3 st3 hQ3
  subst l3 y3 z3
  obtain ⟨rfl, N3q, e3⟩ := hQ3
  have N4 := Fr.app N2 N3q
  obtain ⟨cq5, kq5, q5a, q5b, q5c⟩ := isOf hZ e3 E_a1
  obtain ⟨v5, _, ⟨T5, L5, k5, n5⟩, -, X5, ⟨Lc5, hQ5, l5, y5, z5⟩, st5⟩ := X3.virtualBack hx (y := (⟨"java/lang/String", "length", "()I"⟩ : MethodName)) (z := (⟨"java/lang/String", "length", "()I"⟩ : MethodName)) hown (mvT hZ (hw _ (List.mem_of_getElem? (i := 68) rfl))) (mvT hZ (hw _ (List.mem_of_getElem? (i := 69) rfl))) (notFace_of_selects (args := #[]) (mvT hZ (hw _ (List.mem_of_getElem? (i := 71) rfl)))) (mvT hZ (hw _ (List.mem_of_getElem? (i := 71) rfl))) (mvT hZ (hw _ (List.mem_of_getElem? (i := 70) rfl))) (by decide) (backOf (W := 1) (own_vA_rm16 l Z a0 hw [] a1 w_value_a1 k_w_value_a1 y0 w_COMPACT_STRINGS h0 n0 Z0 O0 V_w_value_a1 hcs F_value_a1 S_COMPACT_STRINGS F_coder_a1 E_a1) hZ (hw _ (List.mem_of_getElem? (i := 72) rfl)) (hw _ (List.mem_of_getElem? (i := 16) rfl)) (by decide) (by decide)) q5a q5c (g := (mkF m 4 #[.val (.ref a1), .val (.int (1 : Int32)), .val (.int (own_vA0_f18 y0))] [(.ref a1), (.int (1 : Int32))])) rfl (by rw [hml]; rfl) (Steps.refl _) (argsL := []) (rest := [(.int (1 : Int32))]) (lenOf own_pd226 rfl) rfl (by show 2 * 0 + _ ≤ _; exact Nat.le_of_eq rfl) (hb hby own_d15_4) (fun _ _ => ⟨rfl, e3, (by decide : 0 + 0 ≤ _), (by decide : 0 + 0 ≤ _)⟩)
  dsimp only [Pt.U, Pt.locs, Pt.cells, Pt.slots] at X5 l5 y5 z5 st5 hQ5
  subst l5 y5 z5
  obtain ⟨hv5, N5q, e5⟩ := hQ5
  have N6 := Fr.app N4 N5q
  rw [show (own_vA_f16) = (1 : Int32) from by first | rfl | decide | simp [own_vA_f16]] at hv5
  subst hv5
  obtain ⟨fs, hr, hrun, hended, hW, hsame⟩ := X5.leave (hlocks := hlk) (v := some (.int (-1 : Int32))) (fun h => by rw [Bd.returns] at h; cases h)
  refine ⟨_, _, pre0 _ ?_, hrun, hended, _, _, rfl, ?_, ⟨_, rfl⟩, hW, hsame.mono (by decide) (by decide)⟩
  · show Steps p.tables e below (s₁.setTop (mkF m 0 #[.val (.ref a1), .unset, .unset] [])) _
    refine XS.iconst X0.here hx rfl (hb hby own_d15_0) ?_
    show Steps p.tables e below (s₁.setTop (mkF m 1 #[.val (.ref a1), .unset, .unset] [(.int (0 : Int32))])) _
    refine XS.istoreN X0.here hx rfl (hb hby own_d15_1) rfl (l' := #[.val (.ref a1), .val (.int (0 : Int32)), .unset]) rfl ?_
    show Steps p.tables e below (s₁.setTop (mkF m 2 #[.val (.ref a1), .val (.int (0 : Int32)), .unset] [])) _
    refine XS.iloadN X0.here hx rfl (hb hby own_d15_2) rfl ?_
    show Steps p.tables e below (s₁.setTop (mkF m 3 #[.val (.ref a1), .val (.int (0 : Int32)), .unset] [(.int (0 : Int32))])) _
    refine XS.aloadN X0.here hx rfl (hb hby own_d15_3) rfl rfl ?_
    show Steps p.tables e below (s₁.setTop (mkF m 4 #[.val (.ref a1), .val (.int (0 : Int32)), .unset] [(.ref a1), (.int (0 : Int32))])) _
    refine st1.trans ?_
    show Steps p.tables e below (T1.setTop (mkF m 7 #[.val (.ref a1), .val (.int (0 : Int32)), .unset] [(.int (1 : Int32)), (.int (0 : Int32))])) _
    refine XS.icmpNo X1.here hx rfl (hb hby own_d15_7) rfl (tlt (by decide : (0 : Int32) < (1 : Int32))).2.1 ?_
    show Steps p.tables e below (T1.setTop (mkF m 10 #[.val (.ref a1), .val (.int (0 : Int32)), .unset] [])) _
    refine XS.aloadN X1.here hx rfl (hb hby own_d15_10) rfl rfl ?_
    show Steps p.tables e below (T1.setTop (mkF m 11 #[.val (.ref a1), .val (.int (0 : Int32)), .unset] [(.ref a1)])) _
    refine XS.iloadN X1.here hx rfl (hb hby own_d15_11) rfl ?_
    show Steps p.tables e below (T1.setTop (mkF m 12 #[.val (.ref a1), .val (.int (0 : Int32)), .unset] [(.int (0 : Int32)), (.ref a1)])) _
    refine st3.trans ?_
    show Steps p.tables e below (T3.setTop (mkF m 15 #[.val (.ref a1), .val (.int (0 : Int32)), .unset] [(.int (own_vA0_f18 y0))])) _
    refine XS.istoreN X3.here hx rfl (hb hby own_d15_15) rfl (l' := #[.val (.ref a1), .val (.int (0 : Int32)), .val (.int (own_vA0_f18 y0))]) rfl ?_
    show Steps p.tables e below (T3.setTop (mkF m 16 #[.val (.ref a1), .val (.int (0 : Int32)), .val (.int (own_vA0_f18 y0))] [])) _
    refine XS.iloadN X3.here hx rfl (hb hby own_d15_16) rfl ?_
    show Steps p.tables e below (T3.setTop (mkF m 17 #[.val (.ref a1), .val (.int (0 : Int32)), .val (.int (own_vA0_f18 y0))] [(.int (own_vA0_f18 y0))])) _
    refine XS.bipush X3.here hx rfl (hb hby own_d15_17) ?_
    show Steps p.tables e below (T3.setTop (mkF m 19 #[.val (.ref a1), .val (.int (0 : Int32)), .val (.int (own_vA0_f18 y0))] [(.int (32 : Int32)), (.int (own_vA0_f18 y0))])) _
    refine XS.icmpNo X3.here hx rfl (hb hby own_d15_19) rfl (feq (gd0.1 : ¬ (own_vA0_f18 y0) = (32 : Int32))).1 ?_
    show Steps p.tables e below (T3.setTop (mkF m 22 #[.val (.ref a1), .val (.int (0 : Int32)), .val (.int (own_vA0_f18 y0))] [])) _
    refine XS.iloadN X3.here hx rfl (hb hby own_d15_22) rfl ?_
    show Steps p.tables e below (T3.setTop (mkF m 23 #[.val (.ref a1), .val (.int (0 : Int32)), .val (.int (own_vA0_f18 y0))] [(.int (own_vA0_f18 y0))])) _
    refine XS.bipush X3.here hx rfl (hb hby own_d15_23) ?_
    show Steps p.tables e below (T3.setTop (mkF m 25 #[.val (.ref a1), .val (.int (0 : Int32)), .val (.int (own_vA0_f18 y0))] [(.int (9 : Int32)), (.int (own_vA0_f18 y0))])) _
    refine XS.icmpNo X3.here hx rfl (hb hby own_d15_25) rfl (feq (gd0.2.1 : ¬ (own_vA0_f18 y0) = (9 : Int32))).1 ?_
    show Steps p.tables e below (T3.setTop (mkF m 28 #[.val (.ref a1), .val (.int (0 : Int32)), .val (.int (own_vA0_f18 y0))] [])) _
    refine XS.iloadN X3.here hx rfl (hb hby own_d15_28) rfl ?_
    show Steps p.tables e below (T3.setTop (mkF m 29 #[.val (.ref a1), .val (.int (0 : Int32)), .val (.int (own_vA0_f18 y0))] [(.int (own_vA0_f18 y0))])) _
    refine XS.bipush X3.here hx rfl (hb hby own_d15_29) ?_
    show Steps p.tables e below (T3.setTop (mkF m 31 #[.val (.ref a1), .val (.int (0 : Int32)), .val (.int (own_vA0_f18 y0))] [(.int (10 : Int32)), (.int (own_vA0_f18 y0))])) _
    refine XS.icmpYes X3.here hx rfl (pc0 := 31) (pc' := 36) rfl (hb hby own_d15_31) rfl (feq (gd0.2.2.1 : ¬ (own_vA0_f18 y0) = (10 : Int32))).2 (by decide) (by decide) ?_
    show Steps p.tables e below (T3.setTop (mkF m 36 #[.val (.ref a1), .val (.int (0 : Int32)), .val (.int (own_vA0_f18 y0))] [])) _
    refine XS.iinc X3.here hx rfl (hb hby own_d15_36) rfl (l' := #[.val (.ref a1), .val (.int (1 : Int32)), .val (.int (own_vA0_f18 y0))]) rfl ?_
    show Steps p.tables e below (T3.setTop (mkF m 39 #[.val (.ref a1), .val (.int (1 : Int32)), .val (.int (own_vA0_f18 y0))] [])) _
    refine XS.goto X3.here hx rfl (pc0 := 39) (pc' := 2) rfl (hb hby own_d15_39) (by decide) (by decide) ?_
    show Steps p.tables e below (T3.setTop (mkF m 2 #[.val (.ref a1), .val (.int (1 : Int32)), .val (.int (own_vA0_f18 y0))] [])) _
    refine XS.iloadN X3.here hx rfl (hb hby own_d15_2) rfl ?_
    show Steps p.tables e below (T3.setTop (mkF m 3 #[.val (.ref a1), .val (.int (1 : Int32)), .val (.int (own_vA0_f18 y0))] [(.int (1 : Int32))])) _
    refine XS.aloadN X3.here hx rfl (hb hby own_d15_3) rfl rfl ?_
    show Steps p.tables e below (T3.setTop (mkF m 4 #[.val (.ref a1), .val (.int (1 : Int32)), .val (.int (own_vA0_f18 y0))] [(.ref a1), (.int (1 : Int32))])) _
    refine st5.trans ?_
    show Steps p.tables e below (T5.setTop (mkF m 7 #[.val (.ref a1), .val (.int (1 : Int32)), .val (.int (own_vA0_f18 y0))] [(.int (1 : Int32)), (.int (1 : Int32))])) _
    refine XS.icmpYes X5.here hx rfl (pc0 := 7) (pc' := 42) rfl (hb hby own_d15_7) rfl (flt (by decide : ¬ ((1 : Int32) < (1 : Int32)))).2.1 (by decide) (by decide) ?_
    show Steps p.tables e below (T5.setTop (mkF m 42 #[.val (.ref a1), .val (.int (1 : Int32)), .val (.int (own_vA0_f18 y0))] [])) _
    refine XS.iconst X5.here hx rfl (hb hby own_d15_42) ?_
    show Steps p.tables e below (T5.setTop (mkF m 43 #[.val (.ref a1), .val (.int (1 : Int32)), .val (.int (own_vA0_f18 y0))] [(.int (-1 : Int32))])) _
    exact retI X5 hx Bd.returns (hb hby own_d15_43) hr
  · show own_vA_Q15 Z a1 w_value_a1 k_w_value_a1 y0 w_COMPACT_STRINGS w_SIOOBE_FORMATTER h0 n0 _ T5.heap _
    rw [e5]
    exact ⟨(by rw [own_vA_f15]), N6, rfl⟩
-- body 15, variant B
theorem own_vB_ef15 (m : MethodId) (x0 : Addr) : entryFrame m #[(.ref x0)] 3 = mkF m 0 #[.val (.ref x0), .unset, .unset] [] := by first | (simp [entryFrame, mkF, argsToLocals, Value.category]; done) | rfl
def own_vB_f15 : Int32 := (-1 : Int32)
def own_vB_Q15 (Z : State) (a1 : Addr) (w_value_a1 : Addr) (k_w_value_a1 : ClassId) (y0 : Int32) (y1 : Int32) (w_COMPACT_STRINGS : Int32) (w_SIOOBE_FORMATTER : Value) (h0 : Heap) (n0 : Nat) (v : Option Value) (h : Heap) (L : List Loc) : Prop := v = some (.int (own_vB_f15)) ∧ Fr n0 L ∧ h = h0
set_option maxRecDepth 65536 in
set_option maxHeartbeats 40000000 in
theorem own_vB_rm15 (l : Launch) (Z : State) (a0 : Array Value) (hw : ∀ d ∈ tables_1, d.before a0 Z = true) (ws : List Jvm.Cond) (a1 : Addr) (w_value_a1 : Addr) (k_w_value_a1 : ClassId) (y0 : Int32) (y1 : Int32) (w_COMPACT_STRINGS : Int32) (w_SIOOBE_FORMATTER : Value) (h0 : Heap) (n0 : Nat) (Z0 : n0 ≤ h0.size) (O0 : Old Z n0 h0) (V_w_value_a1 : Arv Z h0 w_value_a1 k_w_value_a1 .byte (2 : Int32) [(.int y0), (.int y1)] (.int (0 : Int32))) (gd0 : own_good y0) (gd1 : own_good y1) (hcs : ¬ w_COMPACT_STRINGS = (0 : Int32)) (hrf : w_SIOOBE_FORMATTER.isRef = true) (S_COMPACT_STRINGS : Sta Z Z.heap "java/lang/String" "COMPACT_STRINGS" "Z" (.int w_COMPACT_STRINGS)) (F_value_a1 : Fld Z h0 a1 "java/lang/String" "value" "[B" (.ref w_value_a1)) (F_coder_a1 : Fld Z h0 a1 "java/lang/String" "coder" "B" (.int (0 : Int32))) (E_a1 : Exa Z h0 a1 "java/lang/String") (S_SIOOBE_FORMATTER : Sta Z Z.heap "jdk/internal/util/Preconditions" "SIOOBE_FORMATTER" "Ljava/util/function/BiFunction;" w_SIOOBE_FORMATTER) :
    MetFree l (⟨"com/example/nanshe/nanshe/engine/Request", "breakIn", "(Ljava/lang/String;)I"⟩ : MethodName) (head1 (Jvm.Cond.code (⟨"com/example/nanshe/nanshe/engine/Request", "breakIn", "(Ljava/lang/String;)I"⟩ : MethodName) prog_7_method_10_code 3 (some .int) :: ws) ({ frames := 4, cells := 0, slots := 0, locals := 53 } : Room)) (fun a U => a = #[(.ref a1)] ∧ Z.Warmed39 U.vm ∧ U.heap = h0) (fun _ _ _ _ _ => True) (fun _ U o U' => ∃ v L, o = .returned v ∧ own_vB_Q15 Z a1 w_value_a1 k_w_value_a1 y0 y1 w_COMPACT_STRINGS w_SIOOBE_FORMATTER h0 n0 v U'.heap L ∧ FrameEnd U o U' L ({ frames := 4, cells := 0, slots := 0, locals := 53 } : Room).cells ({ frames := 4, cells := 0, slots := 0, locals := 53 } : Room).slots) := by
  refine MetFree.of_bodySF (plainFor_of_name own_pn227) hisR ?_
  intro p e s m args below meth c s₁ Bd hml0 hP hK
  obtain ⟨rfl, hZ, hh⟩ := hP
  have hx := Bd.exec
  have hby := Bd.bytes
  have hml : c.maxLocals = 3 := hml0
  have hown : s.vm.findClass "com/example/nanshe/nanshe/engine/Request" = some m.cls := findClass_of_methodNamed Bd.named
  have hnm := (name_of_methodNamed Bd.named Bd.method).1
  have X0 : Stand p l e ({ frames := 4, cells := 0, slots := 0, locals := 53 } : Room) s m #[(.ref a1)] below meth c s₁ [] 0 0 := Stand.of_body Bd
  have hS0 : s.Since s.vm 0 := (State.WarmedH.refl s).since 0
  have hk0 : 0 ≤ h0.size := Nat.zero_le _
  have hlk := Bd.notSynchronized
  have e0 : s₁.heap = h0 := by rw [← hh, Bd.state]; rfl
  have N0 := Fr.nil n0
  have pre0 : ∀ t, Steps p.tables e below (s₁.setTop (mkF m 0 #[.val (.ref a1), .unset, .unset] [])) t → Steps p.tables e below (s₁.setTop (entryFrame m #[(.ref a1)] 3)) t := fun t k => castTop (own_vB_ef15 m a1) k
  obtain ⟨cq1, kq1, q1a, q1b, q1c⟩ := isOf hZ e0 E_a1
  obtain ⟨v1, _, ⟨T1, L1, k1, n1⟩, -, X1, ⟨Lc1, hQ1, l1, y1, z1⟩, st1⟩ := X0.virtualBack hx (y := (⟨"java/lang/String", "length", "()I"⟩ : MethodName)) (z := (⟨"java/lang/String", "length", "()I"⟩ : MethodName)) hown (mvT hZ (hw _ (List.mem_of_getElem? (i := 68) rfl))) (mvT hZ (hw _ (List.mem_of_getElem? (i := 69) rfl))) (notFace_of_selects (args := #[]) (mvT hZ (hw _ (List.mem_of_getElem? (i := 71) rfl)))) (mvT hZ (hw _ (List.mem_of_getElem? (i := 71) rfl))) (mvT hZ (hw _ (List.mem_of_getElem? (i := 70) rfl))) (by decide) (backOf (W := 1) (own_vB_rm16 l Z a0 hw [] a1 w_value_a1 k_w_value_a1 y0 y1 w_COMPACT_STRINGS h0 n0 Z0 O0 V_w_value_a1 hcs F_value_a1 S_COMPACT_STRINGS F_coder_a1 E_a1) hZ (hw _ (List.mem_of_getElem? (i := 72) rfl)) (hw _ (List.mem_of_getElem? (i := 16) rfl)) (by decide) (by decide)) q1a q1c (g := (mkF m 4 #[.val (.ref a1), .val (.int (0 : Int32)), .unset] [(.ref a1), (.int (0 : Int32))])) rfl (by rw [hml]; rfl) (Steps.refl _) (argsL := []) (rest := [(.int (0 : Int32))]) (lenOf own_pd226 rfl) rfl (by show 2 * 0 + _ ≤ _; exact Nat.le_of_eq rfl) (hb hby own_d15_4) (fun _ _ => ⟨rfl, e0, (by decide : 0 + 0 ≤ _), (by decide : 0 + 0 ≤ _)⟩)
  dsimp only [Pt.U, Pt.locs, Pt.cells, Pt.slots] at X1 l1 y1 z1 st1 hQ1
  subst l1 y1 z1
  obtain ⟨hv1, N1q, e1⟩ := hQ1
  have N2 := Fr.app N0 N1q
  rw [show (own_vB_f16) = (2 : Int32) from by first | rfl | decide | simp [own_vB_f16]] at hv1
  subst hv1
  obtain ⟨cq3, kq3, q3a, q3b, q3c⟩ := isOf hZ e1 E_a1
  obtain ⟨v3, _, ⟨T3, L3, k3, n3⟩, -, X3, ⟨Lc3, hQ3, l3, y3, z3⟩, st3⟩ := X1.virtualBack hx (y := (⟨"java/lang/String", "charAt", "(I)C"⟩ : MethodName)) (z := (⟨"java/lang/String", "charAt", "(I)C"⟩ : MethodName)) hown (mvT hZ (hw _ (List.mem_of_getElem? (i := 78) rfl))) (mvT hZ (hw _ (List.mem_of_getElem? (i := 79) rfl))) (notFace_of_selects (args := #[]) (mvT hZ (hw _ (List.mem_of_getElem? (i := 81) rfl)))) (mvT hZ (hw _ (List.mem_of_getElem? (i := 81) rfl))) (mvT hZ (hw _ (List.mem_of_getElem? (i := 80) rfl))) (by decide) (backOf (W := 0) (own_vB0_rm18 l Z a0 hw [] a1 w_value_a1 k_w_value_a1 y0 y1 w_COMPACT_STRINGS w_SIOOBE_FORMATTER h0 n0 Z0 O0 V_w_value_a1 hcs hrf S_COMPACT_STRINGS F_coder_a1 E_a1 F_value_a1 S_SIOOBE_FORMATTER) hZ (hw _ (List.mem_of_getElem? (i := 82) rfl)) (hw _ (List.mem_of_getElem? (i := 16) rfl)) (by decide) (by decide)) q3a q3c (g := (mkF m 12 #[.val (.ref a1), .val (.int (0 : Int32)), .unset] [(.int (0 : Int32)), (.ref a1)])) rfl (by rw [hml]; rfl) (Steps.refl _) (argsL := [(.int (0 : Int32))]) (rest := []) (lenOf own_pd110 rfl) rfl (by show 2 * 0 + _ ≤ _; exact Nat.le_of_eq rfl) (hb hby own_d15_12) (fun _ _ => ⟨rfl, e1, (by decide : 0 + 0 ≤ _), (by decide : 0 + 0 ≤ _)⟩)
  dsimp only [Pt.U, Pt.locs, Pt.cells, Pt.slots] at X3 l3 y3 z3 st3 hQ3
  subst l3 y3 z3
  obtain ⟨rfl, N3q, e3⟩ := hQ3
  have N4 := Fr.app N2 N3q
  obtain ⟨cq5, kq5, q5a, q5b, q5c⟩ := isOf hZ e3 E_a1
  obtain ⟨v5, _, ⟨T5, L5, k5, n5⟩, -, X5, ⟨Lc5, hQ5, l5, y5, z5⟩, st5⟩ := X3.virtualBack hx (y := (⟨"java/lang/String", "length", "()I"⟩ : MethodName)) (z := (⟨"java/lang/String", "length", "()I"⟩ : MethodName)) hown (mvT hZ (hw _ (List.mem_of_getElem? (i := 68) rfl))) (mvT hZ (hw _ (List.mem_of_getElem? (i := 69) rfl))) (notFace_of_selects (args := #[]) (mvT hZ (hw _ (List.mem_of_getElem? (i := 71) rfl)))) (mvT hZ (hw _ (List.mem_of_getElem? (i := 71) rfl))) (mvT hZ (hw _ (List.mem_of_getElem? (i := 70) rfl))) (by decide) (backOf (W := 1) (own_vB_rm16 l Z a0 hw [] a1 w_value_a1 k_w_value_a1 y0 y1 w_COMPACT_STRINGS h0 n0 Z0 O0 V_w_value_a1 hcs F_value_a1 S_COMPACT_STRINGS F_coder_a1 E_a1) hZ (hw _ (List.mem_of_getElem? (i := 72) rfl)) (hw _ (List.mem_of_getElem? (i := 16) rfl)) (by decide) (by decide)) q5a q5c (g := (mkF m 4 #[.val (.ref a1), .val (.int (1 : Int32)), .val (.int (own_vB0_f18 y0))] [(.ref a1), (.int (1 : Int32))])) rfl (by rw [hml]; rfl) (Steps.refl _) (argsL := []) (rest := [(.int (1 : Int32))]) (lenOf own_pd226 rfl) rfl (by show 2 * 0 + _ ≤ _; exact Nat.le_of_eq rfl) (hb hby own_d15_4) (fun _ _ => ⟨rfl, e3, (by decide : 0 + 0 ≤ _), (by decide : 0 + 0 ≤ _)⟩)
  dsimp only [Pt.U, Pt.locs, Pt.cells, Pt.slots] at X5 l5 y5 z5 st5 hQ5
  subst l5 y5 z5
  obtain ⟨hv5, N5q, e5⟩ := hQ5
  have N6 := Fr.app N4 N5q
  rw [show (own_vB_f16) = (2 : Int32) from by first | rfl | decide | simp [own_vB_f16]] at hv5
  subst hv5
  obtain ⟨cq7, kq7, q7a, q7b, q7c⟩ := isOf hZ e5 E_a1
  obtain ⟨v7, _, ⟨T7, L7, k7, n7⟩, -, X7, ⟨Lc7, hQ7, l7, y7, z7⟩, st7⟩ := X5.virtualBack hx (y := (⟨"java/lang/String", "charAt", "(I)C"⟩ : MethodName)) (z := (⟨"java/lang/String", "charAt", "(I)C"⟩ : MethodName)) hown (mvT hZ (hw _ (List.mem_of_getElem? (i := 78) rfl))) (mvT hZ (hw _ (List.mem_of_getElem? (i := 79) rfl))) (notFace_of_selects (args := #[]) (mvT hZ (hw _ (List.mem_of_getElem? (i := 81) rfl)))) (mvT hZ (hw _ (List.mem_of_getElem? (i := 81) rfl))) (mvT hZ (hw _ (List.mem_of_getElem? (i := 80) rfl))) (by decide) (backOf (W := 0) (own_vB1_rm18 l Z a0 hw [] a1 w_value_a1 k_w_value_a1 y0 y1 w_COMPACT_STRINGS w_SIOOBE_FORMATTER h0 n0 Z0 O0 V_w_value_a1 hcs hrf S_COMPACT_STRINGS F_coder_a1 E_a1 F_value_a1 S_SIOOBE_FORMATTER) hZ (hw _ (List.mem_of_getElem? (i := 82) rfl)) (hw _ (List.mem_of_getElem? (i := 16) rfl)) (by decide) (by decide)) q7a q7c (g := (mkF m 12 #[.val (.ref a1), .val (.int (1 : Int32)), .val (.int (own_vB0_f18 y0))] [(.int (1 : Int32)), (.ref a1)])) rfl (by rw [hml]; rfl) (Steps.refl _) (argsL := [(.int (1 : Int32))]) (rest := []) (lenOf own_pd110 rfl) rfl (by show 2 * 0 + _ ≤ _; exact Nat.le_of_eq rfl) (hb hby own_d15_12) (fun _ _ => ⟨rfl, e5, (by decide : 0 + 0 ≤ _), (by decide : 0 + 0 ≤ _)⟩)
  dsimp only [Pt.U, Pt.locs, Pt.cells, Pt.slots] at X7 l7 y7 z7 st7 hQ7
  subst l7 y7 z7
  obtain ⟨rfl, N7q, e7⟩ := hQ7
  have N8 := Fr.app N6 N7q
  obtain ⟨cq9, kq9, q9a, q9b, q9c⟩ := isOf hZ e7 E_a1
  obtain ⟨v9, _, ⟨T9, L9, k9, n9⟩, -, X9, ⟨Lc9, hQ9, l9, y9, z9⟩, st9⟩ := X7.virtualBack hx (y := (⟨"java/lang/String", "length", "()I"⟩ : MethodName)) (z := (⟨"java/lang/String", "length", "()I"⟩ : MethodName)) hown (mvT hZ (hw _ (List.mem_of_getElem? (i := 68) rfl))) (mvT hZ (hw _ (List.mem_of_getElem? (i := 69) rfl))) (notFace_of_selects (args := #[]) (mvT hZ (hw _ (List.mem_of_getElem? (i := 71) rfl)))) (mvT hZ (hw _ (List.mem_of_getElem? (i := 71) rfl))) (mvT hZ (hw _ (List.mem_of_getElem? (i := 70) rfl))) (by decide) (backOf (W := 1) (own_vB_rm16 l Z a0 hw [] a1 w_value_a1 k_w_value_a1 y0 y1 w_COMPACT_STRINGS h0 n0 Z0 O0 V_w_value_a1 hcs F_value_a1 S_COMPACT_STRINGS F_coder_a1 E_a1) hZ (hw _ (List.mem_of_getElem? (i := 72) rfl)) (hw _ (List.mem_of_getElem? (i := 16) rfl)) (by decide) (by decide)) q9a q9c (g := (mkF m 4 #[.val (.ref a1), .val (.int (2 : Int32)), .val (.int (own_vB1_f18 y1))] [(.ref a1), (.int (2 : Int32))])) rfl (by rw [hml]; rfl) (Steps.refl _) (argsL := []) (rest := [(.int (2 : Int32))]) (lenOf own_pd226 rfl) rfl (by show 2 * 0 + _ ≤ _; exact Nat.le_of_eq rfl) (hb hby own_d15_4) (fun _ _ => ⟨rfl, e7, (by decide : 0 + 0 ≤ _), (by decide : 0 + 0 ≤ _)⟩)
  dsimp only [Pt.U, Pt.locs, Pt.cells, Pt.slots] at X9 l9 y9 z9 st9 hQ9
  subst l9 y9 z9
  obtain ⟨hv9, N9q, e9⟩ := hQ9
  have N10 := Fr.app N8 N9q
  rw [show (own_vB_f16) = (2 : Int32) from by first | rfl | decide | simp [own_vB_f16]] at hv9
  subst hv9
  obtain ⟨fs, hr, hrun, hended, hW, hsame⟩ := X9.leave (hlocks := hlk) (v := some (.int (-1 : Int32))) (fun h => by rw [Bd.returns] at h; cases h)
  refine ⟨_, _, pre0 _ ?_, hrun, hended, _, _, rfl, ?_, ⟨_, rfl⟩, hW, hsame.mono (by decide) (by decide)⟩
  · show Steps p.tables e below (s₁.setTop (mkF m 0 #[.val (.ref a1), .unset, .unset] [])) _
    refine XS.iconst X0.here hx rfl (hb hby own_d15_0) ?_
    show Steps p.tables e below (s₁.setTop (mkF m 1 #[.val (.ref a1), .unset, .unset] [(.int (0 : Int32))])) _
    refine XS.istoreN X0.here hx rfl (hb hby own_d15_1) rfl (l' := #[.val (.ref a1), .val (.int (0 : Int32)), .unset]) rfl ?_
    show Steps p.tables e below (s₁.setTop (mkF m 2 #[.val (.ref a1), .val (.int (0 : Int32)), .unset] [])) _
    refine XS.iloadN X0.here hx rfl (hb hby own_d15_2) rfl ?_
    show Steps p.tables e below (s₁.setTop (mkF m 3 #[.val (.ref a1), .val (.int (0 : Int32)), .unset] [(.int (0 : Int32))])) _
    refine XS.aloadN X0.here hx rfl (hb hby own_d15_3) rfl rfl ?_
    show Steps p.tables e below (s₁.setTop (mkF m 4 #[.val (.ref a1), .val (.int (0 : Int32)), .unset] [(.ref a1), (.int (0 : Int32))])) _
    refine st1.trans ?_
    show Steps p.tables e below (T1.setTop (mkF m 7 #[.val (.ref a1), .val (.int (0 : Int32)), .unset] [(.int (2 : Int32)), (.int (0 : Int32))])) _
    refine XS.icmpNo X1.here hx rfl (hb hby own_d15_7) rfl (tlt (by decide : (0 : Int32) < (2 : Int32))).2.1 ?_
    show Steps p.tables e below (T1.setTop (mkF m 10 #[.val (.ref a1), .val (.int (0 : Int32)), .unset] [])) _
    refine XS.aloadN X1.here hx rfl (hb hby own_d15_10) rfl rfl ?_
    show Steps p.tables e below (T1.setTop (mkF m 11 #[.val (.ref a1), .val (.int (0 : Int32)), .unset] [(.ref a1)])) _
    refine XS.iloadN X1.here hx rfl (hb hby own_d15_11) rfl ?_
    show Steps p.tables e below (T1.setTop (mkF m 12 #[.val (.ref a1), .val (.int (0 : Int32)), .unset] [(.int (0 : Int32)), (.ref a1)])) _
    refine st3.trans ?_
    show Steps p.tables e below (T3.setTop (mkF m 15 #[.val (.ref a1), .val (.int (0 : Int32)), .unset] [(.int (own_vB0_f18 y0))])) _
    refine XS.istoreN X3.here hx rfl (hb hby own_d15_15) rfl (l' := #[.val (.ref a1), .val (.int (0 : Int32)), .val (.int (own_vB0_f18 y0))]) rfl ?_
    show Steps p.tables e below (T3.setTop (mkF m 16 #[.val (.ref a1), .val (.int (0 : Int32)), .val (.int (own_vB0_f18 y0))] [])) _
    refine XS.iloadN X3.here hx rfl (hb hby own_d15_16) rfl ?_
    show Steps p.tables e below (T3.setTop (mkF m 17 #[.val (.ref a1), .val (.int (0 : Int32)), .val (.int (own_vB0_f18 y0))] [(.int (own_vB0_f18 y0))])) _
    refine XS.bipush X3.here hx rfl (hb hby own_d15_17) ?_
    show Steps p.tables e below (T3.setTop (mkF m 19 #[.val (.ref a1), .val (.int (0 : Int32)), .val (.int (own_vB0_f18 y0))] [(.int (32 : Int32)), (.int (own_vB0_f18 y0))])) _
    refine XS.icmpNo X3.here hx rfl (hb hby own_d15_19) rfl (feq (gd0.1 : ¬ (own_vB0_f18 y0) = (32 : Int32))).1 ?_
    show Steps p.tables e below (T3.setTop (mkF m 22 #[.val (.ref a1), .val (.int (0 : Int32)), .val (.int (own_vB0_f18 y0))] [])) _
    refine XS.iloadN X3.here hx rfl (hb hby own_d15_22) rfl ?_
    show Steps p.tables e below (T3.setTop (mkF m 23 #[.val (.ref a1), .val (.int (0 : Int32)), .val (.int (own_vB0_f18 y0))] [(.int (own_vB0_f18 y0))])) _
    refine XS.bipush X3.here hx rfl (hb hby own_d15_23) ?_
    show Steps p.tables e below (T3.setTop (mkF m 25 #[.val (.ref a1), .val (.int (0 : Int32)), .val (.int (own_vB0_f18 y0))] [(.int (9 : Int32)), (.int (own_vB0_f18 y0))])) _
    refine XS.icmpNo X3.here hx rfl (hb hby own_d15_25) rfl (feq (gd0.2.1 : ¬ (own_vB0_f18 y0) = (9 : Int32))).1 ?_
    show Steps p.tables e below (T3.setTop (mkF m 28 #[.val (.ref a1), .val (.int (0 : Int32)), .val (.int (own_vB0_f18 y0))] [])) _
    refine XS.iloadN X3.here hx rfl (hb hby own_d15_28) rfl ?_
    show Steps p.tables e below (T3.setTop (mkF m 29 #[.val (.ref a1), .val (.int (0 : Int32)), .val (.int (own_vB0_f18 y0))] [(.int (own_vB0_f18 y0))])) _
    refine XS.bipush X3.here hx rfl (hb hby own_d15_29) ?_
    show Steps p.tables e below (T3.setTop (mkF m 31 #[.val (.ref a1), .val (.int (0 : Int32)), .val (.int (own_vB0_f18 y0))] [(.int (10 : Int32)), (.int (own_vB0_f18 y0))])) _
    refine XS.icmpYes X3.here hx rfl (pc0 := 31) (pc' := 36) rfl (hb hby own_d15_31) rfl (feq (gd0.2.2.1 : ¬ (own_vB0_f18 y0) = (10 : Int32))).2 (by decide) (by decide) ?_
    show Steps p.tables e below (T3.setTop (mkF m 36 #[.val (.ref a1), .val (.int (0 : Int32)), .val (.int (own_vB0_f18 y0))] [])) _
    refine XS.iinc X3.here hx rfl (hb hby own_d15_36) rfl (l' := #[.val (.ref a1), .val (.int (1 : Int32)), .val (.int (own_vB0_f18 y0))]) rfl ?_
    show Steps p.tables e below (T3.setTop (mkF m 39 #[.val (.ref a1), .val (.int (1 : Int32)), .val (.int (own_vB0_f18 y0))] [])) _
    refine XS.goto X3.here hx rfl (pc0 := 39) (pc' := 2) rfl (hb hby own_d15_39) (by decide) (by decide) ?_
    show Steps p.tables e below (T3.setTop (mkF m 2 #[.val (.ref a1), .val (.int (1 : Int32)), .val (.int (own_vB0_f18 y0))] [])) _
    refine XS.iloadN X3.here hx rfl (hb hby own_d15_2) rfl ?_
    show Steps p.tables e below (T3.setTop (mkF m 3 #[.val (.ref a1), .val (.int (1 : Int32)), .val (.int (own_vB0_f18 y0))] [(.int (1 : Int32))])) _
    refine XS.aloadN X3.here hx rfl (hb hby own_d15_3) rfl rfl ?_
    show Steps p.tables e below (T3.setTop (mkF m 4 #[.val (.ref a1), .val (.int (1 : Int32)), .val (.int (own_vB0_f18 y0))] [(.ref a1), (.int (1 : Int32))])) _
    refine st5.trans ?_
    show Steps p.tables e below (T5.setTop (mkF m 7 #[.val (.ref a1), .val (.int (1 : Int32)), .val (.int (own_vB0_f18 y0))] [(.int (2 : Int32)), (.int (1 : Int32))])) _
    refine XS.icmpNo X5.here hx rfl (hb hby own_d15_7) rfl (tlt (by decide : (1 : Int32) < (2 : Int32))).2.1 ?_
    show Steps p.tables e below (T5.setTop (mkF m 10 #[.val (.ref a1), .val (.int (1 : Int32)), .val (.int (own_vB0_f18 y0))] [])) _
    refine XS.aloadN X5.here hx rfl (hb hby own_d15_10) rfl rfl ?_
    show Steps p.tables e below (T5.setTop (mkF m 11 #[.val (.ref a1), .val (.int (1 : Int32)), .val (.int (own_vB0_f18 y0))] [(.ref a1)])) _
    refine XS.iloadN X5.here hx rfl (hb hby own_d15_11) rfl ?_
    show Steps p.tables e below (T5.setTop (mkF m 12 #[.val (.ref a1), .val (.int (1 : Int32)), .val (.int (own_vB0_f18 y0))] [(.int (1 : Int32)), (.ref a1)])) _
    refine st7.trans ?_
    show Steps p.tables e below (T7.setTop (mkF m 15 #[.val (.ref a1), .val (.int (1 : Int32)), .val (.int (own_vB0_f18 y0))] [(.int (own_vB1_f18 y1))])) _
    refine XS.istoreN X7.here hx rfl (hb hby own_d15_15) rfl (l' := #[.val (.ref a1), .val (.int (1 : Int32)), .val (.int (own_vB1_f18 y1))]) rfl ?_
    show Steps p.tables e below (T7.setTop (mkF m 16 #[.val (.ref a1), .val (.int (1 : Int32)), .val (.int (own_vB1_f18 y1))] [])) _
    refine XS.iloadN X7.here hx rfl (hb hby own_d15_16) rfl ?_
    show Steps p.tables e below (T7.setTop (mkF m 17 #[.val (.ref a1), .val (.int (1 : Int32)), .val (.int (own_vB1_f18 y1))] [(.int (own_vB1_f18 y1))])) _
    refine XS.bipush X7.here hx rfl (hb hby own_d15_17) ?_
    show Steps p.tables e below (T7.setTop (mkF m 19 #[.val (.ref a1), .val (.int (1 : Int32)), .val (.int (own_vB1_f18 y1))] [(.int (32 : Int32)), (.int (own_vB1_f18 y1))])) _
    refine XS.icmpNo X7.here hx rfl (hb hby own_d15_19) rfl (feq (gd1.1 : ¬ (own_vB1_f18 y1) = (32 : Int32))).1 ?_
    show Steps p.tables e below (T7.setTop (mkF m 22 #[.val (.ref a1), .val (.int (1 : Int32)), .val (.int (own_vB1_f18 y1))] [])) _
    refine XS.iloadN X7.here hx rfl (hb hby own_d15_22) rfl ?_
    show Steps p.tables e below (T7.setTop (mkF m 23 #[.val (.ref a1), .val (.int (1 : Int32)), .val (.int (own_vB1_f18 y1))] [(.int (own_vB1_f18 y1))])) _
    refine XS.bipush X7.here hx rfl (hb hby own_d15_23) ?_
    show Steps p.tables e below (T7.setTop (mkF m 25 #[.val (.ref a1), .val (.int (1 : Int32)), .val (.int (own_vB1_f18 y1))] [(.int (9 : Int32)), (.int (own_vB1_f18 y1))])) _
    refine XS.icmpNo X7.here hx rfl (hb hby own_d15_25) rfl (feq (gd1.2.1 : ¬ (own_vB1_f18 y1) = (9 : Int32))).1 ?_
    show Steps p.tables e below (T7.setTop (mkF m 28 #[.val (.ref a1), .val (.int (1 : Int32)), .val (.int (own_vB1_f18 y1))] [])) _
    refine XS.iloadN X7.here hx rfl (hb hby own_d15_28) rfl ?_
    show Steps p.tables e below (T7.setTop (mkF m 29 #[.val (.ref a1), .val (.int (1 : Int32)), .val (.int (own_vB1_f18 y1))] [(.int (own_vB1_f18 y1))])) _
    refine XS.bipush X7.here hx rfl (hb hby own_d15_29) ?_
    show Steps p.tables e below (T7.setTop (mkF m 31 #[.val (.ref a1), .val (.int (1 : Int32)), .val (.int (own_vB1_f18 y1))] [(.int (10 : Int32)), (.int (own_vB1_f18 y1))])) _
    refine XS.icmpYes X7.here hx rfl (pc0 := 31) (pc' := 36) rfl (hb hby own_d15_31) rfl (feq (gd1.2.2.1 : ¬ (own_vB1_f18 y1) = (10 : Int32))).2 (by decide) (by decide) ?_
    show Steps p.tables e below (T7.setTop (mkF m 36 #[.val (.ref a1), .val (.int (1 : Int32)), .val (.int (own_vB1_f18 y1))] [])) _
    refine XS.iinc X7.here hx rfl (hb hby own_d15_36) rfl (l' := #[.val (.ref a1), .val (.int (2 : Int32)), .val (.int (own_vB1_f18 y1))]) rfl ?_
    show Steps p.tables e below (T7.setTop (mkF m 39 #[.val (.ref a1), .val (.int (2 : Int32)), .val (.int (own_vB1_f18 y1))] [])) _
    refine XS.goto X7.here hx rfl (pc0 := 39) (pc' := 2) rfl (hb hby own_d15_39) (by decide) (by decide) ?_
    show Steps p.tables e below (T7.setTop (mkF m 2 #[.val (.ref a1), .val (.int (2 : Int32)), .val (.int (own_vB1_f18 y1))] [])) _
    refine XS.iloadN X7.here hx rfl (hb hby own_d15_2) rfl ?_
    show Steps p.tables e below (T7.setTop (mkF m 3 #[.val (.ref a1), .val (.int (2 : Int32)), .val (.int (own_vB1_f18 y1))] [(.int (2 : Int32))])) _
    refine XS.aloadN X7.here hx rfl (hb hby own_d15_3) rfl rfl ?_
    show Steps p.tables e below (T7.setTop (mkF m 4 #[.val (.ref a1), .val (.int (2 : Int32)), .val (.int (own_vB1_f18 y1))] [(.ref a1), (.int (2 : Int32))])) _
    refine st9.trans ?_
    show Steps p.tables e below (T9.setTop (mkF m 7 #[.val (.ref a1), .val (.int (2 : Int32)), .val (.int (own_vB1_f18 y1))] [(.int (2 : Int32)), (.int (2 : Int32))])) _
    refine XS.icmpYes X9.here hx rfl (pc0 := 7) (pc' := 42) rfl (hb hby own_d15_7) rfl (flt (by decide : ¬ ((2 : Int32) < (2 : Int32)))).2.1 (by decide) (by decide) ?_
    show Steps p.tables e below (T9.setTop (mkF m 42 #[.val (.ref a1), .val (.int (2 : Int32)), .val (.int (own_vB1_f18 y1))] [])) _
    refine XS.iconst X9.here hx rfl (hb hby own_d15_42) ?_
    show Steps p.tables e below (T9.setTop (mkF m 43 #[.val (.ref a1), .val (.int (2 : Int32)), .val (.int (own_vB1_f18 y1))] [(.int (-1 : Int32))])) _
    exact retI X9 hx Bd.returns (hb hby own_d15_43) hr
  · show own_vB_Q15 Z a1 w_value_a1 k_w_value_a1 y0 y1 w_COMPACT_STRINGS w_SIOOBE_FORMATTER h0 n0 _ T9.heap _
    rw [e9]
    exact ⟨(by rw [own_vB_f15]), N10, rfl⟩
-- body 23, variant A
theorem own_d23_0 : decode prog_7_method_13_code 0 = .ok (.aload_n 0, 1) := by decide +kernel
theorem own_d23_1 : decode prog_7_method_13_code 1 = .ok (.invokevirtual 66, 3) := by decide +kernel
theorem own_d23_4 : decode prog_7_method_13_code 4 = .ok (.iconst 1, 1) := by decide +kernel
theorem own_d23_5 : decode prog_7_method_13_code 5 = .ok (.isub, 1) := by decide +kernel
theorem own_d23_6 : decode prog_7_method_13_code 6 = .ok (.istore_n 2, 1) := by decide +kernel
theorem own_d23_7 : decode prog_7_method_13_code 7 = .ok (.iconst 0, 1) := by decide +kernel
theorem own_d23_8 : decode prog_7_method_13_code 8 = .ok (.istore_n 3, 1) := by decide +kernel
theorem own_d23_9 : decode prog_7_method_13_code 9 = .ok (.iload_n 3, 1) := by decide +kernel
theorem own_d23_10 : decode prog_7_method_13_code 10 = .ok (.iload_n 2, 1) := by decide +kernel
theorem own_d23_11 : decode prog_7_method_13_code 11 = .ok (.if_icmp .gt 110, 3) := by decide +kernel
theorem own_d23_14 : decode prog_7_method_13_code 14 = .ok (.aload_n 0, 1) := by decide +kernel
theorem own_d23_15 : decode prog_7_method_13_code 15 = .ok (.iload_n 3, 1) := by decide +kernel
theorem own_d23_16 : decode prog_7_method_13_code 16 = .ok (.invokevirtual 70, 3) := by decide +kernel
theorem own_d23_19 : decode prog_7_method_13_code 19 = .ok (.istore 4, 2) := by decide +kernel
theorem own_d23_21 : decode prog_7_method_13_code 21 = .ok (.iload 4, 2) := by decide +kernel
theorem own_d23_23 : decode prog_7_method_13_code 23 = .ok (.invokestatic 104, 3) := by decide +kernel
theorem own_d23_26 : decode prog_7_method_13_code 26 = .ok (.ifCond .eq 25, 3) := by decide +kernel
theorem own_d23_51 : decode prog_7_method_13_code 51 = .ok (.iconst 0, 1) := by decide +kernel
theorem own_d23_52 : decode prog_7_method_13_code 52 = .ok (.istore 5, 2) := by decide +kernel
theorem own_d23_54 : decode prog_7_method_13_code 54 = .ok (.iload 4, 2) := by decide +kernel
theorem own_d23_56 : decode prog_7_method_13_code 56 = .ok (.invokestatic 110, 3) := by decide +kernel
theorem own_d23_59 : decode prog_7_method_13_code 59 = .ok (.ifCond .eq 24, 3) := by decide +kernel
theorem own_d23_83 : decode prog_7_method_13_code 83 = .ok (.iconst 0, 1) := by decide +kernel
theorem own_d23_84 : decode prog_7_method_13_code 84 = .ok (.istore 6, 2) := by decide +kernel
theorem own_d23_86 : decode prog_7_method_13_code 86 = .ok (.iload 5, 2) := by decide +kernel
theorem own_d23_88 : decode prog_7_method_13_code 88 = .ok (.ifCond .ne 8, 3) := by decide +kernel
theorem own_d23_91 : decode prog_7_method_13_code 91 = .ok (.iload 6, 2) := by decide +kernel
theorem own_d23_93 : decode prog_7_method_13_code 93 = .ok (.ifCond .eq 22, 3) := by decide +kernel
theorem own_d23_115 : decode prog_7_method_13_code 115 = .ok (.iinc 3 1, 3) := by decide +kernel
theorem own_d23_118 : decode prog_7_method_13_code 118 = .ok (.goto (-109), 3) := by decide +kernel
theorem own_d23_121 : decode prog_7_method_13_code 121 = .ok (.aload_n 0, 1) := by decide +kernel
theorem own_d23_122 : decode prog_7_method_13_code 122 = .ok (.areturn, 1) := by decide +kernel
theorem own_vA_ef23 (m : MethodId) (x0 : Addr) (x1 : Addr) : entryFrame m #[(.ref x0), (.ref x1)] 7 = mkF m 0 #[.val (.ref x0), .val (.ref x1), .unset, .unset, .unset, .unset, .unset] [] := by first | (simp [entryFrame, mkF, argsToLocals, Value.category]; done) | rfl
def own_vA_f23 (a1 : Addr) : Addr := a1
def own_vA_Q23 (Z : State) (a1 : Addr) (a2 : Addr) (w_value_a1 : Addr) (k_w_value_a1 : ClassId) (y0 : Int32) (w_COMPACT_STRINGS : Int32) (w_SIOOBE_FORMATTER : Value) (h0 : Heap) (n0 : Nat) (v : Option Value) (h : Heap) (L : List Loc) : Prop := v = some (.ref (own_vA_f23 a1)) ∧ Fr n0 L ∧ h = h0
set_option maxRecDepth 65536 in
set_option maxHeartbeats 40000000 in
theorem own_vA_rm23 (l : Launch) (Z : State) (a0 : Array Value) (hw : ∀ d ∈ tables_1, d.before a0 Z = true) (ws : List Jvm.Cond) (a1 : Addr) (a2 : Addr) (w_value_a1 : Addr) (k_w_value_a1 : ClassId) (y0 : Int32) (w_COMPACT_STRINGS : Int32) (w_SIOOBE_FORMATTER : Value) (h0 : Heap) (n0 : Nat) (Z0 : n0 ≤ h0.size) (O0 : Old Z n0 h0) (V_w_value_a1 : Arv Z h0 w_value_a1 k_w_value_a1 .byte (1 : Int32) [(.int y0)] (.int (0 : Int32))) (gd0 : own_good y0) (hcs : ¬ w_COMPACT_STRINGS = (0 : Int32)) (hrf : w_SIOOBE_FORMATTER.isRef = true) (S_COMPACT_STRINGS : Sta Z Z.heap "java/lang/String" "COMPACT_STRINGS" "Z" (.int w_COMPACT_STRINGS)) (F_value_a1 : Fld Z h0 a1 "java/lang/String" "value" "[B" (.ref w_value_a1)) (F_coder_a1 : Fld Z h0 a1 "java/lang/String" "coder" "B" (.int (0 : Int32))) (E_a1 : Exa Z h0 a1 "java/lang/String") (S_SIOOBE_FORMATTER : Sta Z Z.heap "jdk/internal/util/Preconditions" "SIOOBE_FORMATTER" "Ljava/util/function/BiFunction;" w_SIOOBE_FORMATTER) :
    MetFree l (⟨"com/example/nanshe/nanshe/engine/Request", "unicode", "(Ljava/lang/String;Ljava/lang/String;)Ljava/lang/String;"⟩ : MethodName) (head1 (Jvm.Cond.code (⟨"com/example/nanshe/nanshe/engine/Request", "unicode", "(Ljava/lang/String;Ljava/lang/String;)Ljava/lang/String;"⟩ : MethodName) prog_7_method_13_code 7 (some (.object "java/lang/String")) :: ws) ({ frames := 4, cells := 0, slots := 0, locals := 53 } : Room)) (fun a U => a = #[(.ref a1), (.ref a2)] ∧ Z.Warmed39 U.vm ∧ U.heap = h0) (fun _ _ _ _ _ => True) (fun _ U o U' => ∃ v L, o = .returned v ∧ own_vA_Q23 Z a1 a2 w_value_a1 k_w_value_a1 y0 w_COMPACT_STRINGS w_SIOOBE_FORMATTER h0 n0 v U'.heap L ∧ FrameEnd U o U' L ({ frames := 4, cells := 0, slots := 0, locals := 53 } : Room).cells ({ frames := 4, cells := 0, slots := 0, locals := 53 } : Room).slots) := by
  refine MetFree.of_bodySF (plainFor_of_name own_pn227) hisR ?_
  intro p e s m args below meth c s₁ Bd hml0 hP hK
  obtain ⟨rfl, hZ, hh⟩ := hP
  have hx := Bd.exec
  have hby := Bd.bytes
  have hml : c.maxLocals = 7 := hml0
  have hown : s.vm.findClass "com/example/nanshe/nanshe/engine/Request" = some m.cls := findClass_of_methodNamed Bd.named
  have hnm := (name_of_methodNamed Bd.named Bd.method).1
  have X0 : Stand p l e ({ frames := 4, cells := 0, slots := 0, locals := 53 } : Room) s m #[(.ref a1), (.ref a2)] below meth c s₁ [] 0 0 := Stand.of_body Bd
  have hS0 : s.Since s.vm 0 := (State.WarmedH.refl s).since 0
  have hk0 : 0 ≤ h0.size := Nat.zero_le _
  have hlk := Bd.notSynchronized
  have e0 : s₁.heap = h0 := by rw [← hh, Bd.state]; rfl
  have N0 := Fr.nil n0
  have pre0 : ∀ t, Steps p.tables e below (s₁.setTop (mkF m 0 #[.val (.ref a1), .val (.ref a2), .unset, .unset, .unset, .unset, .unset] [])) t → Steps p.tables e below (s₁.setTop (entryFrame m #[(.ref a1), (.ref a2)] 7)) t := fun t k => castTop (own_vA_ef23 m a1 a2) k
  obtain ⟨cq1, kq1, q1a, q1b, q1c⟩ := isOf hZ e0 E_a1
  obtain ⟨v1, _, ⟨T1, L1, k1, n1⟩, -, X1, ⟨Lc1, hQ1, l1, y1, z1⟩, st1⟩ := X0.virtualBack hx (y := (⟨"java/lang/String", "length", "()I"⟩ : MethodName)) (z := (⟨"java/lang/String", "length", "()I"⟩ : MethodName)) hown (mvT hZ (hw _ (List.mem_of_getElem? (i := 68) rfl))) (mvT hZ (hw _ (List.mem_of_getElem? (i := 69) rfl))) (notFace_of_selects (args := #[]) (mvT hZ (hw _ (List.mem_of_getElem? (i := 71) rfl)))) (mvT hZ (hw _ (List.mem_of_getElem? (i := 71) rfl))) (mvT hZ (hw _ (List.mem_of_getElem? (i := 70) rfl))) (by decide) (backOf (W := 0) (own_vA_rm16 l Z a0 hw [] a1 w_value_a1 k_w_value_a1 y0 w_COMPACT_STRINGS h0 n0 Z0 O0 V_w_value_a1 hcs F_value_a1 S_COMPACT_STRINGS F_coder_a1 E_a1) hZ (hw _ (List.mem_of_getElem? (i := 72) rfl)) (hw _ (List.mem_of_getElem? (i := 16) rfl)) (by decide) (by decide)) q1a q1c (g := (mkF m 1 #[.val (.ref a1), .val (.ref a2), .unset, .unset, .unset, .unset, .unset] [(.ref a1)])) rfl (by rw [hml]; rfl) (Steps.refl _) (argsL := []) (rest := []) (lenOf own_pd226 rfl) rfl (by show 2 * 0 + _ ≤ _; exact Nat.le_of_eq rfl) (hb hby own_d23_1) (fun _ _ => ⟨rfl, e0, (by decide : 0 + 0 ≤ _), (by decide : 0 + 0 ≤ _)⟩)
  dsimp only [Pt.U, Pt.locs, Pt.cells, Pt.slots] at X1 l1 y1 z1 st1 hQ1
  subst l1 y1 z1
  obtain ⟨hv1, N1q, e1⟩ := hQ1
  have N2 := Fr.app N0 N1q
  rw [show (own_vA_f16) = (1 : Int32) from by first | rfl | decide | simp [own_vA_f16]] at hv1
  subst hv1
  obtain ⟨cq3, kq3, q3a, q3b, q3c⟩ := isOf hZ e1 E_a1
  obtain ⟨v3, _, ⟨T3, L3, k3, n3⟩, -, X3, ⟨Lc3, hQ3, l3, y3, z3⟩, st3⟩ := X1.virtualBack hx (y := (⟨"java/lang/String", "charAt", "(I)C"⟩ : MethodName)) (z := (⟨"java/lang/String", "charAt", "(I)C"⟩ : MethodName)) hown (mvT hZ (hw _ (List.mem_of_getElem? (i := 78) rfl))) (mvT hZ (hw _ (List.mem_of_getElem? (i := 79) rfl))) (notFace_of_selects (args := #[]) (mvT hZ (hw _ (List.mem_of_getElem? (i := 81) rfl)))) (mvT hZ (hw _ (List.mem_of_getElem? (i := 81) rfl))) (mvT hZ (hw _ (List.mem_of_getElem? (i := 80) rfl))) (by decide) (backOf (W := 0) (own_vA0_rm18 l Z a0 hw [] a1 w_value_a1 k_w_value_a1 y0 w_COMPACT_STRINGS w_SIOOBE_FORMATTER h0 n0 Z0 O0 V_w_value_a1 hcs hrf S_COMPACT_STRINGS F_coder_a1 E_a1 F_value_a1 S_SIOOBE_FORMATTER) hZ (hw _ (List.mem_of_getElem? (i := 82) rfl)) (hw _ (List.mem_of_getElem? (i := 16) rfl)) (by decide) (by decide)) q3a q3c (g := (mkF m 16 #[.val (.ref a1), .val (.ref a2), .val (.int (0 : Int32)), .val (.int (0 : Int32)), .unset, .unset, .unset] [(.int (0 : Int32)), (.ref a1)])) rfl (by rw [hml]; rfl) (Steps.refl _) (argsL := [(.int (0 : Int32))]) (rest := []) (lenOf own_pd110 rfl) rfl (by show 2 * 0 + _ ≤ _; exact Nat.le_of_eq rfl) (hb hby own_d23_16) (fun _ _ => ⟨rfl, e1, (by decide : 0 + 0 ≤ _), (by decide : 0 + 0 ≤ _)⟩)
  dsimp only [Pt.U, Pt.locs, Pt.cells, Pt.slots] at X3 l3 y3 z3 st3 hQ3
  subst l3 y3 z3
  obtain ⟨rfl, N3q, e3⟩ := hQ3
  have N4 := Fr.app N2 N3q
  obtain ⟨v5, _, ⟨T5, L5, k5, n5⟩, -, X5, ⟨Lc5, hQ5, l5, y5, z5⟩, st5⟩ := Jvm.LawKit.callS X3 hx (y := (⟨"java/lang/Character", "isHighSurrogate", "(C)Z"⟩ : MethodName)) hown (mvT hZ (hw _ (List.mem_of_getElem? (i := 103) rfl))) (mvT hZ (hw _ (List.mem_of_getElem? (i := 104) rfl))) (mvT hZ (hw _ (List.mem_of_getElem? (i := 105) rfl))) (mvT hZ (hw _ (List.mem_of_getElem? (i := 106) rfl))) (by decide) (backOf (W := 0) (own_rm24 l Z a0 hw [] (own_vA0_f18 y0) h0 n0 Z0 (gd0.2.2.2.1 : (own_vA0_f18 y0) < (55296 : Int32))) hZ (hw _ (List.mem_of_getElem? (i := 106) rfl)) (hw _ (List.mem_of_getElem? (i := 105) rfl)) (by decide) (by decide)) (g := (mkF m 23 #[.val (.ref a1), .val (.ref a2), .val (.int (0 : Int32)), .val (.int (0 : Int32)), .val (.int (own_vA0_f18 y0)), .unset, .unset] [(.int (own_vA0_f18 y0))])) rfl (by rw [hml]; rfl) (argsL := [(.int (own_vA0_f18 y0))]) (rest := []) (lenOf own_pd251 rfl) rfl (by show 2 * 0 + _ ≤ _; exact Nat.le_of_eq rfl) (hb hby own_d23_23) (fun _ _ => ⟨rfl, e3, (by decide : 0 + 0 ≤ _), (by decide : 0 + 0 ≤ _)⟩)
  dsimp only [Pt.U, Pt.locs, Pt.cells, Pt.slots] at X5 l5 y5 z5 st5 hQ5
  subst l5 y5 z5
  obtain ⟨hv5, N5q, e5⟩ := hQ5
  have N6 := Fr.app N4 N5q
  rw [show (own_f24) = (0 : Int32) from by first | rfl | decide | simp [own_f24]] at hv5
  subst hv5
  obtain ⟨v7, _, ⟨T7, L7, k7, n7⟩, -, X7, ⟨Lc7, hQ7, l7, y7, z7⟩, st7⟩ := Jvm.LawKit.callS X5 hx (y := (⟨"java/lang/Character", "isLowSurrogate", "(C)Z"⟩ : MethodName)) hown (mvT hZ (hw _ (List.mem_of_getElem? (i := 108) rfl))) (mvT hZ (hw _ (List.mem_of_getElem? (i := 109) rfl))) (mvT hZ (hw _ (List.mem_of_getElem? (i := 105) rfl))) (mvT hZ (hw _ (List.mem_of_getElem? (i := 110) rfl))) (by decide) (backOf (W := 0) (own_rm25 l Z a0 hw [] (own_vA0_f18 y0) h0 n0 Z0 (gd0.2.2.2.2 : (own_vA0_f18 y0) < (56320 : Int32))) hZ (hw _ (List.mem_of_getElem? (i := 110) rfl)) (hw _ (List.mem_of_getElem? (i := 105) rfl)) (by decide) (by decide)) (g := (mkF m 56 #[.val (.ref a1), .val (.ref a2), .val (.int (0 : Int32)), .val (.int (0 : Int32)), .val (.int (own_vA0_f18 y0)), .val (.int (0 : Int32)), .unset] [(.int (own_vA0_f18 y0))])) rfl (by rw [hml]; rfl) (argsL := [(.int (own_vA0_f18 y0))]) (rest := []) (lenOf own_pd251 rfl) rfl (by show 2 * 0 + _ ≤ _; exact Nat.le_of_eq rfl) (hb hby own_d23_56) (fun _ _ => ⟨rfl, e5, (by decide : 0 + 0 ≤ _), (by decide : 0 + 0 ≤ _)⟩)
  dsimp only [Pt.U, Pt.locs, Pt.cells, Pt.slots] at X7 l7 y7 z7 st7 hQ7
  subst l7 y7 z7
  obtain ⟨hv7, N7q, e7⟩ := hQ7
  have N8 := Fr.app N6 N7q
  rw [show (own_f25) = (0 : Int32) from by first | rfl | decide | simp [own_f25]] at hv7
  subst hv7
  obtain ⟨fs, hr, hrun, hended, hW, hsame⟩ := X7.leave (hlocks := hlk) (v := some (.ref a1)) (fun h => by rw [Bd.returns] at h; cases h)
  refine ⟨_, _, pre0 _ ?_, hrun, hended, _, _, rfl, ?_, ⟨_, rfl⟩, hW, hsame.mono (by decide) (by decide)⟩
  · show Steps p.tables e below (s₁.setTop (mkF m 0 #[.val (.ref a1), .val (.ref a2), .unset, .unset, .unset, .unset, .unset] [])) _
    refine XS.aloadN X0.here hx rfl (hb hby own_d23_0) rfl rfl ?_
    show Steps p.tables e below (s₁.setTop (mkF m 1 #[.val (.ref a1), .val (.ref a2), .unset, .unset, .unset, .unset, .unset] [(.ref a1)])) _
    refine st1.trans ?_
    show Steps p.tables e below (T1.setTop (mkF m 4 #[.val (.ref a1), .val (.ref a2), .unset, .unset, .unset, .unset, .unset] [(.int (1 : Int32))])) _
    refine XS.iconst X1.here hx rfl (hb hby own_d23_4) ?_
    show Steps p.tables e below (T1.setTop (mkF m 5 #[.val (.ref a1), .val (.ref a2), .unset, .unset, .unset, .unset, .unset] [(.int (1 : Int32)), (.int (1 : Int32))])) _
    refine XS.isub X1.here hx rfl (hb hby own_d23_5) rfl ?_
    show Steps p.tables e below (T1.setTop (mkF m 6 #[.val (.ref a1), .val (.ref a2), .unset, .unset, .unset, .unset, .unset] [(.int (0 : Int32))])) _
    refine XS.istoreN X1.here hx rfl (hb hby own_d23_6) rfl (l' := #[.val (.ref a1), .val (.ref a2), .val (.int (0 : Int32)), .unset, .unset, .unset, .unset]) rfl ?_
    show Steps p.tables e below (T1.setTop (mkF m 7 #[.val (.ref a1), .val (.ref a2), .val (.int (0 : Int32)), .unset, .unset, .unset, .unset] [])) _
    refine XS.iconst X1.here hx rfl (hb hby own_d23_7) ?_
    show Steps p.tables e below (T1.setTop (mkF m 8 #[.val (.ref a1), .val (.ref a2), .val (.int (0 : Int32)), .unset, .unset, .unset, .unset] [(.int (0 : Int32))])) _
    refine XS.istoreN X1.here hx rfl (hb hby own_d23_8) rfl (l' := #[.val (.ref a1), .val (.ref a2), .val (.int (0 : Int32)), .val (.int (0 : Int32)), .unset, .unset, .unset]) rfl ?_
    show Steps p.tables e below (T1.setTop (mkF m 9 #[.val (.ref a1), .val (.ref a2), .val (.int (0 : Int32)), .val (.int (0 : Int32)), .unset, .unset, .unset] [])) _
    refine XS.iloadN X1.here hx rfl (hb hby own_d23_9) rfl ?_
    show Steps p.tables e below (T1.setTop (mkF m 10 #[.val (.ref a1), .val (.ref a2), .val (.int (0 : Int32)), .val (.int (0 : Int32)), .unset, .unset, .unset] [(.int (0 : Int32))])) _
    refine XS.iloadN X1.here hx rfl (hb hby own_d23_10) rfl ?_
    show Steps p.tables e below (T1.setTop (mkF m 11 #[.val (.ref a1), .val (.ref a2), .val (.int (0 : Int32)), .val (.int (0 : Int32)), .unset, .unset, .unset] [(.int (0 : Int32)), (.int (0 : Int32))])) _
    refine XS.icmpNo X1.here hx rfl (hb hby own_d23_11) rfl (flt (by decide : ¬ ((0 : Int32) < (0 : Int32)))).2.2.1 ?_
    show Steps p.tables e below (T1.setTop (mkF m 14 #[.val (.ref a1), .val (.ref a2), .val (.int (0 : Int32)), .val (.int (0 : Int32)), .unset, .unset, .unset] [])) _
    refine XS.aloadN X1.here hx rfl (hb hby own_d23_14) rfl rfl ?_
    show Steps p.tables e below (T1.setTop (mkF m 15 #[.val (.ref a1), .val (.ref a2), .val (.int (0 : Int32)), .val (.int (0 : Int32)), .unset, .unset, .unset] [(.ref a1)])) _
    refine XS.iloadN X1.here hx rfl (hb hby own_d23_15) rfl ?_
    show Steps p.tables e below (T1.setTop (mkF m 16 #[.val (.ref a1), .val (.ref a2), .val (.int (0 : Int32)), .val (.int (0 : Int32)), .unset, .unset, .unset] [(.int (0 : Int32)), (.ref a1)])) _
    refine st3.trans ?_
    show Steps p.tables e below (T3.setTop (mkF m 19 #[.val (.ref a1), .val (.ref a2), .val (.int (0 : Int32)), .val (.int (0 : Int32)), .unset, .unset, .unset] [(.int (own_vA0_f18 y0))])) _
    refine XS.istore X3.here hx rfl (hb hby own_d23_19) rfl (l' := #[.val (.ref a1), .val (.ref a2), .val (.int (0 : Int32)), .val (.int (0 : Int32)), .val (.int (own_vA0_f18 y0)), .unset, .unset]) rfl ?_
    show Steps p.tables e below (T3.setTop (mkF m 21 #[.val (.ref a1), .val (.ref a2), .val (.int (0 : Int32)), .val (.int (0 : Int32)), .val (.int (own_vA0_f18 y0)), .unset, .unset] [])) _
    refine XS.iload X3.here hx rfl (hb hby own_d23_21) rfl ?_
    show Steps p.tables e below (T3.setTop (mkF m 23 #[.val (.ref a1), .val (.ref a2), .val (.int (0 : Int32)), .val (.int (0 : Int32)), .val (.int (own_vA0_f18 y0)), .unset, .unset] [(.int (own_vA0_f18 y0))])) _
    refine st5 _ ?_
    show Steps p.tables e below (T5.setTop (mkF m 26 #[.val (.ref a1), .val (.ref a2), .val (.int (0 : Int32)), .val (.int (0 : Int32)), .val (.int (own_vA0_f18 y0)), .unset, .unset] [(.int (0 : Int32))])) _
    refine XS.ifYes X5.here hx rfl (pc0 := 26) (pc' := 51) rfl (hb hby own_d23_26) rfl ((if0 _ _).trans (teq (by decide : (0 : Int32) = (0 : Int32))).1) (by decide) (by decide) ?_
    show Steps p.tables e below (T5.setTop (mkF m 51 #[.val (.ref a1), .val (.ref a2), .val (.int (0 : Int32)), .val (.int (0 : Int32)), .val (.int (own_vA0_f18 y0)), .unset, .unset] [])) _
    refine XS.iconst X5.here hx rfl (hb hby own_d23_51) ?_
    show Steps p.tables e below (T5.setTop (mkF m 52 #[.val (.ref a1), .val (.ref a2), .val (.int (0 : Int32)), .val (.int (0 : Int32)), .val (.int (own_vA0_f18 y0)), .unset, .unset] [(.int (0 : Int32))])) _
    refine XS.istore X5.here hx rfl (hb hby own_d23_52) rfl (l' := #[.val (.ref a1), .val (.ref a2), .val (.int (0 : Int32)), .val (.int (0 : Int32)), .val (.int (own_vA0_f18 y0)), .val (.int (0 : Int32)), .unset]) rfl ?_
    show Steps p.tables e below (T5.setTop (mkF m 54 #[.val (.ref a1), .val (.ref a2), .val (.int (0 : Int32)), .val (.int (0 : Int32)), .val (.int (own_vA0_f18 y0)), .val (.int (0 : Int32)), .unset] [])) _
    refine XS.iload X5.here hx rfl (hb hby own_d23_54) rfl ?_
    show Steps p.tables e below (T5.setTop (mkF m 56 #[.val (.ref a1), .val (.ref a2), .val (.int (0 : Int32)), .val (.int (0 : Int32)), .val (.int (own_vA0_f18 y0)), .val (.int (0 : Int32)), .unset] [(.int (own_vA0_f18 y0))])) _
    refine st7 _ ?_
    show Steps p.tables e below (T7.setTop (mkF m 59 #[.val (.ref a1), .val (.ref a2), .val (.int (0 : Int32)), .val (.int (0 : Int32)), .val (.int (own_vA0_f18 y0)), .val (.int (0 : Int32)), .unset] [(.int (0 : Int32))])) _
    refine XS.ifYes X7.here hx rfl (pc0 := 59) (pc' := 83) rfl (hb hby own_d23_59) rfl ((if0 _ _).trans (teq (by decide : (0 : Int32) = (0 : Int32))).1) (by decide) (by decide) ?_
    show Steps p.tables e below (T7.setTop (mkF m 83 #[.val (.ref a1), .val (.ref a2), .val (.int (0 : Int32)), .val (.int (0 : Int32)), .val (.int (own_vA0_f18 y0)), .val (.int (0 : Int32)), .unset] [])) _
    refine XS.iconst X7.here hx rfl (hb hby own_d23_83) ?_
    show Steps p.tables e below (T7.setTop (mkF m 84 #[.val (.ref a1), .val (.ref a2), .val (.int (0 : Int32)), .val (.int (0 : Int32)), .val (.int (own_vA0_f18 y0)), .val (.int (0 : Int32)), .unset] [(.int (0 : Int32))])) _
    refine XS.istore X7.here hx rfl (hb hby own_d23_84) rfl (l' := #[.val (.ref a1), .val (.ref a2), .val (.int (0 : Int32)), .val (.int (0 : Int32)), .val (.int (own_vA0_f18 y0)), .val (.int (0 : Int32)), .val (.int (0 : Int32))]) rfl ?_
    show Steps p.tables e below (T7.setTop (mkF m 86 #[.val (.ref a1), .val (.ref a2), .val (.int (0 : Int32)), .val (.int (0 : Int32)), .val (.int (own_vA0_f18 y0)), .val (.int (0 : Int32)), .val (.int (0 : Int32))] [])) _
    refine XS.iload X7.here hx rfl (hb hby own_d23_86) rfl ?_
    show Steps p.tables e below (T7.setTop (mkF m 88 #[.val (.ref a1), .val (.ref a2), .val (.int (0 : Int32)), .val (.int (0 : Int32)), .val (.int (own_vA0_f18 y0)), .val (.int (0 : Int32)), .val (.int (0 : Int32))] [(.int (0 : Int32))])) _
    refine XS.ifNo X7.here hx rfl (hb hby own_d23_88) rfl ((if0 _ _).trans (teq (by decide : (0 : Int32) = (0 : Int32))).2) ?_
    show Steps p.tables e below (T7.setTop (mkF m 91 #[.val (.ref a1), .val (.ref a2), .val (.int (0 : Int32)), .val (.int (0 : Int32)), .val (.int (own_vA0_f18 y0)), .val (.int (0 : Int32)), .val (.int (0 : Int32))] [])) _
    refine XS.iload X7.here hx rfl (hb hby own_d23_91) rfl ?_
    show Steps p.tables e below (T7.setTop (mkF m 93 #[.val (.ref a1), .val (.ref a2), .val (.int (0 : Int32)), .val (.int (0 : Int32)), .val (.int (own_vA0_f18 y0)), .val (.int (0 : Int32)), .val (.int (0 : Int32))] [(.int (0 : Int32))])) _
    refine XS.ifYes X7.here hx rfl (pc0 := 93) (pc' := 115) rfl (hb hby own_d23_93) rfl ((if0 _ _).trans (teq (by decide : (0 : Int32) = (0 : Int32))).1) (by decide) (by decide) ?_
    show Steps p.tables e below (T7.setTop (mkF m 115 #[.val (.ref a1), .val (.ref a2), .val (.int (0 : Int32)), .val (.int (0 : Int32)), .val (.int (own_vA0_f18 y0)), .val (.int (0 : Int32)), .val (.int (0 : Int32))] [])) _
    refine XS.iinc X7.here hx rfl (hb hby own_d23_115) rfl (l' := #[.val (.ref a1), .val (.ref a2), .val (.int (0 : Int32)), .val (.int (1 : Int32)), .val (.int (own_vA0_f18 y0)), .val (.int (0 : Int32)), .val (.int (0 : Int32))]) rfl ?_
    show Steps p.tables e below (T7.setTop (mkF m 118 #[.val (.ref a1), .val (.ref a2), .val (.int (0 : Int32)), .val (.int (1 : Int32)), .val (.int (own_vA0_f18 y0)), .val (.int (0 : Int32)), .val (.int (0 : Int32))] [])) _
    refine XS.goto X7.here hx rfl (pc0 := 118) (pc' := 9) rfl (hb hby own_d23_118) (by decide) (by decide) ?_
    show Steps p.tables e below (T7.setTop (mkF m 9 #[.val (.ref a1), .val (.ref a2), .val (.int (0 : Int32)), .val (.int (1 : Int32)), .val (.int (own_vA0_f18 y0)), .val (.int (0 : Int32)), .val (.int (0 : Int32))] [])) _
    refine XS.iloadN X7.here hx rfl (hb hby own_d23_9) rfl ?_
    show Steps p.tables e below (T7.setTop (mkF m 10 #[.val (.ref a1), .val (.ref a2), .val (.int (0 : Int32)), .val (.int (1 : Int32)), .val (.int (own_vA0_f18 y0)), .val (.int (0 : Int32)), .val (.int (0 : Int32))] [(.int (1 : Int32))])) _
    refine XS.iloadN X7.here hx rfl (hb hby own_d23_10) rfl ?_
    show Steps p.tables e below (T7.setTop (mkF m 11 #[.val (.ref a1), .val (.ref a2), .val (.int (0 : Int32)), .val (.int (1 : Int32)), .val (.int (own_vA0_f18 y0)), .val (.int (0 : Int32)), .val (.int (0 : Int32))] [(.int (0 : Int32)), (.int (1 : Int32))])) _
    refine XS.icmpYes X7.here hx rfl (pc0 := 11) (pc' := 121) rfl (hb hby own_d23_11) rfl (tlt (by decide : (0 : Int32) < (1 : Int32))).2.2.1 (by decide) (by decide) ?_
    show Steps p.tables e below (T7.setTop (mkF m 121 #[.val (.ref a1), .val (.ref a2), .val (.int (0 : Int32)), .val (.int (1 : Int32)), .val (.int (own_vA0_f18 y0)), .val (.int (0 : Int32)), .val (.int (0 : Int32))] [])) _
    refine XS.aloadN X7.here hx rfl (hb hby own_d23_121) rfl rfl ?_
    show Steps p.tables e below (T7.setTop (mkF m 122 #[.val (.ref a1), .val (.ref a2), .val (.int (0 : Int32)), .val (.int (1 : Int32)), .val (.int (own_vA0_f18 y0)), .val (.int (0 : Int32)), .val (.int (0 : Int32))] [(.ref a1)])) _
    jvm_step X7.here [X7.here.top, hx, (hb hby own_d23_122), X7.method', Bd.returns, Value.isRef, FieldType.isReference]
    first | (intro acts; rw [hr _ acts rfl rfl rfl]) | rw [hr _ _ rfl rfl rfl]
    exact Steps.refl _
  · show own_vA_Q23 Z a1 a2 w_value_a1 k_w_value_a1 y0 w_COMPACT_STRINGS w_SIOOBE_FORMATTER h0 n0 _ T7.heap _
    rw [e7]
    exact ⟨(by rw [own_vA_f23]), N8, rfl⟩
-- body 23, variant B
theorem own_vB_ef23 (m : MethodId) (x0 : Addr) (x1 : Addr) : entryFrame m #[(.ref x0), (.ref x1)] 7 = mkF m 0 #[.val (.ref x0), .val (.ref x1), .unset, .unset, .unset, .unset, .unset] [] := by first | (simp [entryFrame, mkF, argsToLocals, Value.category]; done) | rfl
def own_vB_f23 (a1 : Addr) : Addr := a1
def own_vB_Q23 (Z : State) (a1 : Addr) (a2 : Addr) (w_value_a1 : Addr) (k_w_value_a1 : ClassId) (y0 : Int32) (y1 : Int32) (w_COMPACT_STRINGS : Int32) (w_SIOOBE_FORMATTER : Value) (h0 : Heap) (n0 : Nat) (v : Option Value) (h : Heap) (L : List Loc) : Prop := v = some (.ref (own_vB_f23 a1)) ∧ Fr n0 L ∧ h = h0
set_option maxRecDepth 65536 in
set_option maxHeartbeats 40000000 in
theorem own_vB_rm23 (l : Launch) (Z : State) (a0 : Array Value) (hw : ∀ d ∈ tables_1, d.before a0 Z = true) (ws : List Jvm.Cond) (a1 : Addr) (a2 : Addr) (w_value_a1 : Addr) (k_w_value_a1 : ClassId) (y0 : Int32) (y1 : Int32) (w_COMPACT_STRINGS : Int32) (w_SIOOBE_FORMATTER : Value) (h0 : Heap) (n0 : Nat) (Z0 : n0 ≤ h0.size) (O0 : Old Z n0 h0) (V_w_value_a1 : Arv Z h0 w_value_a1 k_w_value_a1 .byte (2 : Int32) [(.int y0), (.int y1)] (.int (0 : Int32))) (gd0 : own_good y0) (gd1 : own_good y1) (hcs : ¬ w_COMPACT_STRINGS = (0 : Int32)) (hrf : w_SIOOBE_FORMATTER.isRef = true) (S_COMPACT_STRINGS : Sta Z Z.heap "java/lang/String" "COMPACT_STRINGS" "Z" (.int w_COMPACT_STRINGS)) (F_value_a1 : Fld Z h0 a1 "java/lang/String" "value" "[B" (.ref w_value_a1)) (F_coder_a1 : Fld Z h0 a1 "java/lang/String" "coder" "B" (.int (0 : Int32))) (E_a1 : Exa Z h0 a1 "java/lang/String") (S_SIOOBE_FORMATTER : Sta Z Z.heap "jdk/internal/util/Preconditions" "SIOOBE_FORMATTER" "Ljava/util/function/BiFunction;" w_SIOOBE_FORMATTER) :
    MetFree l (⟨"com/example/nanshe/nanshe/engine/Request", "unicode", "(Ljava/lang/String;Ljava/lang/String;)Ljava/lang/String;"⟩ : MethodName) (head1 (Jvm.Cond.code (⟨"com/example/nanshe/nanshe/engine/Request", "unicode", "(Ljava/lang/String;Ljava/lang/String;)Ljava/lang/String;"⟩ : MethodName) prog_7_method_13_code 7 (some (.object "java/lang/String")) :: ws) ({ frames := 4, cells := 0, slots := 0, locals := 53 } : Room)) (fun a U => a = #[(.ref a1), (.ref a2)] ∧ Z.Warmed39 U.vm ∧ U.heap = h0) (fun _ _ _ _ _ => True) (fun _ U o U' => ∃ v L, o = .returned v ∧ own_vB_Q23 Z a1 a2 w_value_a1 k_w_value_a1 y0 y1 w_COMPACT_STRINGS w_SIOOBE_FORMATTER h0 n0 v U'.heap L ∧ FrameEnd U o U' L ({ frames := 4, cells := 0, slots := 0, locals := 53 } : Room).cells ({ frames := 4, cells := 0, slots := 0, locals := 53 } : Room).slots) := by
  refine MetFree.of_bodySF (plainFor_of_name own_pn227) hisR ?_
  intro p e s m args below meth c s₁ Bd hml0 hP hK
  obtain ⟨rfl, hZ, hh⟩ := hP
  have hx := Bd.exec
  have hby := Bd.bytes
  have hml : c.maxLocals = 7 := hml0
  have hown : s.vm.findClass "com/example/nanshe/nanshe/engine/Request" = some m.cls := findClass_of_methodNamed Bd.named
  have hnm := (name_of_methodNamed Bd.named Bd.method).1
  have X0 : Stand p l e ({ frames := 4, cells := 0, slots := 0, locals := 53 } : Room) s m #[(.ref a1), (.ref a2)] below meth c s₁ [] 0 0 := Stand.of_body Bd
  have hS0 : s.Since s.vm 0 := (State.WarmedH.refl s).since 0
  have hk0 : 0 ≤ h0.size := Nat.zero_le _
  have hlk := Bd.notSynchronized
  have e0 : s₁.heap = h0 := by rw [← hh, Bd.state]; rfl
  have N0 := Fr.nil n0
  have pre0 : ∀ t, Steps p.tables e below (s₁.setTop (mkF m 0 #[.val (.ref a1), .val (.ref a2), .unset, .unset, .unset, .unset, .unset] [])) t → Steps p.tables e below (s₁.setTop (entryFrame m #[(.ref a1), (.ref a2)] 7)) t := fun t k => castTop (own_vB_ef23 m a1 a2) k
  obtain ⟨cq1, kq1, q1a, q1b, q1c⟩ := isOf hZ e0 E_a1
  obtain ⟨v1, _, ⟨T1, L1, k1, n1⟩, -, X1, ⟨Lc1, hQ1, l1, y1, z1⟩, st1⟩ := X0.virtualBack hx (y := (⟨"java/lang/String", "length", "()I"⟩ : MethodName)) (z := (⟨"java/lang/String", "length", "()I"⟩ : MethodName)) hown (mvT hZ (hw _ (List.mem_of_getElem? (i := 68) rfl))) (mvT hZ (hw _ (List.mem_of_getElem? (i := 69) rfl))) (notFace_of_selects (args := #[]) (mvT hZ (hw _ (List.mem_of_getElem? (i := 71) rfl)))) (mvT hZ (hw _ (List.mem_of_getElem? (i := 71) rfl))) (mvT hZ (hw _ (List.mem_of_getElem? (i := 70) rfl))) (by decide) (backOf (W := 0) (own_vB_rm16 l Z a0 hw [] a1 w_value_a1 k_w_value_a1 y0 y1 w_COMPACT_STRINGS h0 n0 Z0 O0 V_w_value_a1 hcs F_value_a1 S_COMPACT_STRINGS F_coder_a1 E_a1) hZ (hw _ (List.mem_of_getElem? (i := 72) rfl)) (hw _ (List.mem_of_getElem? (i := 16) rfl)) (by decide) (by decide)) q1a q1c (g := (mkF m 1 #[.val (.ref a1), .val (.ref a2), .unset, .unset, .unset, .unset, .unset] [(.ref a1)])) rfl (by rw [hml]; rfl) (Steps.refl _) (argsL := []) (rest := []) (lenOf own_pd226 rfl) rfl (by show 2 * 0 + _ ≤ _; exact Nat.le_of_eq rfl) (hb hby own_d23_1) (fun _ _ => ⟨rfl, e0, (by decide : 0 + 0 ≤ _), (by decide : 0 + 0 ≤ _)⟩)
  dsimp only [Pt.U, Pt.locs, Pt.cells, Pt.slots] at X1 l1 y1 z1 st1 hQ1
  subst l1 y1 z1
  obtain ⟨hv1, N1q, e1⟩ := hQ1
  have N2 := Fr.app N0 N1q
  rw [show (own_vB_f16) = (2 : Int32) from by first | rfl | decide | simp [own_vB_f16]] at hv1
  subst hv1
  obtain ⟨cq3, kq3, q3a, q3b, q3c⟩ := isOf hZ e1 E_a1
  obtain ⟨v3, _, ⟨T3, L3, k3, n3⟩, -, X3, ⟨Lc3, hQ3, l3, y3, z3⟩, st3⟩ := X1.virtualBack hx (y := (⟨"java/lang/String", "charAt", "(I)C"⟩ : MethodName)) (z := (⟨"java/lang/String", "charAt", "(I)C"⟩ : MethodName)) hown (mvT hZ (hw _ (List.mem_of_getElem? (i := 78) rfl))) (mvT hZ (hw _ (List.mem_of_getElem? (i := 79) rfl))) (notFace_of_selects (args := #[]) (mvT hZ (hw _ (List.mem_of_getElem? (i := 81) rfl)))) (mvT hZ (hw _ (List.mem_of_getElem? (i := 81) rfl))) (mvT hZ (hw _ (List.mem_of_getElem? (i := 80) rfl))) (by decide) (backOf (W := 0) (own_vB0_rm18 l Z a0 hw [] a1 w_value_a1 k_w_value_a1 y0 y1 w_COMPACT_STRINGS w_SIOOBE_FORMATTER h0 n0 Z0 O0 V_w_value_a1 hcs hrf S_COMPACT_STRINGS F_coder_a1 E_a1 F_value_a1 S_SIOOBE_FORMATTER) hZ (hw _ (List.mem_of_getElem? (i := 82) rfl)) (hw _ (List.mem_of_getElem? (i := 16) rfl)) (by decide) (by decide)) q3a q3c (g := (mkF m 16 #[.val (.ref a1), .val (.ref a2), .val (.int (1 : Int32)), .val (.int (0 : Int32)), .unset, .unset, .unset] [(.int (0 : Int32)), (.ref a1)])) rfl (by rw [hml]; rfl) (Steps.refl _) (argsL := [(.int (0 : Int32))]) (rest := []) (lenOf own_pd110 rfl) rfl (by show 2 * 0 + _ ≤ _; exact Nat.le_of_eq rfl) (hb hby own_d23_16) (fun _ _ => ⟨rfl, e1, (by decide : 0 + 0 ≤ _), (by decide : 0 + 0 ≤ _)⟩)
  dsimp only [Pt.U, Pt.locs, Pt.cells, Pt.slots] at X3 l3 y3 z3 st3 hQ3
  subst l3 y3 z3
  obtain ⟨rfl, N3q, e3⟩ := hQ3
  have N4 := Fr.app N2 N3q
  obtain ⟨v5, _, ⟨T5, L5, k5, n5⟩, -, X5, ⟨Lc5, hQ5, l5, y5, z5⟩, st5⟩ := Jvm.LawKit.callS X3 hx (y := (⟨"java/lang/Character", "isHighSurrogate", "(C)Z"⟩ : MethodName)) hown (mvT hZ (hw _ (List.mem_of_getElem? (i := 103) rfl))) (mvT hZ (hw _ (List.mem_of_getElem? (i := 104) rfl))) (mvT hZ (hw _ (List.mem_of_getElem? (i := 105) rfl))) (mvT hZ (hw _ (List.mem_of_getElem? (i := 106) rfl))) (by decide) (backOf (W := 0) (own_rm24 l Z a0 hw [] (own_vB0_f18 y0) h0 n0 Z0 (gd0.2.2.2.1 : (own_vB0_f18 y0) < (55296 : Int32))) hZ (hw _ (List.mem_of_getElem? (i := 106) rfl)) (hw _ (List.mem_of_getElem? (i := 105) rfl)) (by decide) (by decide)) (g := (mkF m 23 #[.val (.ref a1), .val (.ref a2), .val (.int (1 : Int32)), .val (.int (0 : Int32)), .val (.int (own_vB0_f18 y0)), .unset, .unset] [(.int (own_vB0_f18 y0))])) rfl (by rw [hml]; rfl) (argsL := [(.int (own_vB0_f18 y0))]) (rest := []) (lenOf own_pd251 rfl) rfl (by show 2 * 0 + _ ≤ _; exact Nat.le_of_eq rfl) (hb hby own_d23_23) (fun _ _ => ⟨rfl, e3, (by decide : 0 + 0 ≤ _), (by decide : 0 + 0 ≤ _)⟩)
  dsimp only [Pt.U, Pt.locs, Pt.cells, Pt.slots] at X5 l5 y5 z5 st5 hQ5
  subst l5 y5 z5
  obtain ⟨hv5, N5q, e5⟩ := hQ5
  have N6 := Fr.app N4 N5q
  rw [show (own_f24) = (0 : Int32) from by first | rfl | decide | simp [own_f24]] at hv5
  subst hv5
  obtain ⟨v7, _, ⟨T7, L7, k7, n7⟩, -, X7, ⟨Lc7, hQ7, l7, y7, z7⟩, st7⟩ := Jvm.LawKit.callS X5 hx (y := (⟨"java/lang/Character", "isLowSurrogate", "(C)Z"⟩ : MethodName)) hown (mvT hZ (hw _ (List.mem_of_getElem? (i := 108) rfl))) (mvT hZ (hw _ (List.mem_of_getElem? (i := 109) rfl))) (mvT hZ (hw _ (List.mem_of_getElem? (i := 105) rfl))) (mvT hZ (hw _ (List.mem_of_getElem? (i := 110) rfl))) (by decide) (backOf (W := 0) (own_rm25 l Z a0 hw [] (own_vB0_f18 y0) h0 n0 Z0 (gd0.2.2.2.2 : (own_vB0_f18 y0) < (56320 : Int32))) hZ (hw _ (List.mem_of_getElem? (i := 110) rfl)) (hw _ (List.mem_of_getElem? (i := 105) rfl)) (by decide) (by decide)) (g := (mkF m 56 #[.val (.ref a1), .val (.ref a2), .val (.int (1 : Int32)), .val (.int (0 : Int32)), .val (.int (own_vB0_f18 y0)), .val (.int (0 : Int32)), .unset] [(.int (own_vB0_f18 y0))])) rfl (by rw [hml]; rfl) (argsL := [(.int (own_vB0_f18 y0))]) (rest := []) (lenOf own_pd251 rfl) rfl (by show 2 * 0 + _ ≤ _; exact Nat.le_of_eq rfl) (hb hby own_d23_56) (fun _ _ => ⟨rfl, e5, (by decide : 0 + 0 ≤ _), (by decide : 0 + 0 ≤ _)⟩)
  dsimp only [Pt.U, Pt.locs, Pt.cells, Pt.slots] at X7 l7 y7 z7 st7 hQ7
  subst l7 y7 z7
  obtain ⟨hv7, N7q, e7⟩ := hQ7
  have N8 := Fr.app N6 N7q
  rw [show (own_f25) = (0 : Int32) from by first | rfl | decide | simp [own_f25]] at hv7
  subst hv7
  obtain ⟨cq9, kq9, q9a, q9b, q9c⟩ := isOf hZ e7 E_a1
  obtain ⟨v9, _, ⟨T9, L9, k9, n9⟩, -, X9, ⟨Lc9, hQ9, l9, y9, z9⟩, st9⟩ := X7.virtualBack hx (y := (⟨"java/lang/String", "charAt", "(I)C"⟩ : MethodName)) (z := (⟨"java/lang/String", "charAt", "(I)C"⟩ : MethodName)) hown (mvT hZ (hw _ (List.mem_of_getElem? (i := 78) rfl))) (mvT hZ (hw _ (List.mem_of_getElem? (i := 79) rfl))) (notFace_of_selects (args := #[]) (mvT hZ (hw _ (List.mem_of_getElem? (i := 81) rfl)))) (mvT hZ (hw _ (List.mem_of_getElem? (i := 81) rfl))) (mvT hZ (hw _ (List.mem_of_getElem? (i := 80) rfl))) (by decide) (backOf (W := 0) (own_vB1_rm18 l Z a0 hw [] a1 w_value_a1 k_w_value_a1 y0 y1 w_COMPACT_STRINGS w_SIOOBE_FORMATTER h0 n0 Z0 O0 V_w_value_a1 hcs hrf S_COMPACT_STRINGS F_coder_a1 E_a1 F_value_a1 S_SIOOBE_FORMATTER) hZ (hw _ (List.mem_of_getElem? (i := 82) rfl)) (hw _ (List.mem_of_getElem? (i := 16) rfl)) (by decide) (by decide)) q9a q9c (g := (mkF m 16 #[.val (.ref a1), .val (.ref a2), .val (.int (1 : Int32)), .val (.int (1 : Int32)), .val (.int (own_vB0_f18 y0)), .val (.int (0 : Int32)), .val (.int (0 : Int32))] [(.int (1 : Int32)), (.ref a1)])) rfl (by rw [hml]; rfl) (Steps.refl _) (argsL := [(.int (1 : Int32))]) (rest := []) (lenOf own_pd110 rfl) rfl (by show 2 * 0 + _ ≤ _; exact Nat.le_of_eq rfl) (hb hby own_d23_16) (fun _ _ => ⟨rfl, e7, (by decide : 0 + 0 ≤ _), (by decide : 0 + 0 ≤ _)⟩)
  dsimp only [Pt.U, Pt.locs, Pt.cells, Pt.slots] at X9 l9 y9 z9 st9 hQ9
  subst l9 y9 z9
  obtain ⟨rfl, N9q, e9⟩ := hQ9
  have N10 := Fr.app N8 N9q
  obtain ⟨v11, _, ⟨T11, L11, k11, n11⟩, -, X11, ⟨Lc11, hQ11, l11, y11, z11⟩, st11⟩ := Jvm.LawKit.callS X9 hx (y := (⟨"java/lang/Character", "isHighSurrogate", "(C)Z"⟩ : MethodName)) hown (mvT hZ (hw _ (List.mem_of_getElem? (i := 103) rfl))) (mvT hZ (hw _ (List.mem_of_getElem? (i := 104) rfl))) (mvT hZ (hw _ (List.mem_of_getElem? (i := 105) rfl))) (mvT hZ (hw _ (List.mem_of_getElem? (i := 106) rfl))) (by decide) (backOf (W := 0) (own_rm24 l Z a0 hw [] (own_vB1_f18 y1) h0 n0 Z0 (gd1.2.2.2.1 : (own_vB1_f18 y1) < (55296 : Int32))) hZ (hw _ (List.mem_of_getElem? (i := 106) rfl)) (hw _ (List.mem_of_getElem? (i := 105) rfl)) (by decide) (by decide)) (g := (mkF m 23 #[.val (.ref a1), .val (.ref a2), .val (.int (1 : Int32)), .val (.int (1 : Int32)), .val (.int (own_vB1_f18 y1)), .val (.int (0 : Int32)), .val (.int (0 : Int32))] [(.int (own_vB1_f18 y1))])) rfl (by rw [hml]; rfl) (argsL := [(.int (own_vB1_f18 y1))]) (rest := []) (lenOf own_pd251 rfl) rfl (by show 2 * 0 + _ ≤ _; exact Nat.le_of_eq rfl) (hb hby own_d23_23) (fun _ _ => ⟨rfl, e9, (by decide : 0 + 0 ≤ _), (by decide : 0 + 0 ≤ _)⟩)
  dsimp only [Pt.U, Pt.locs, Pt.cells, Pt.slots] at X11 l11 y11 z11 st11 hQ11
  subst l11 y11 z11
  obtain ⟨hv11, N11q, e11⟩ := hQ11
  have N12 := Fr.app N10 N11q
  rw [show (own_f24) = (0 : Int32) from by first | rfl | decide | simp [own_f24]] at hv11
  subst hv11
  obtain ⟨v13, _, ⟨T13, L13, k13, n13⟩, -, X13, ⟨Lc13, hQ13, l13, y13, z13⟩, st13⟩ := Jvm.LawKit.callS X11 hx (y := (⟨"java/lang/Character", "isLowSurrogate", "(C)Z"⟩ : MethodName)) hown (mvT hZ (hw _ (List.mem_of_getElem? (i := 108) rfl))) (mvT hZ (hw _ (List.mem_of_getElem? (i := 109) rfl))) (mvT hZ (hw _ (List.mem_of_getElem? (i := 105) rfl))) (mvT hZ (hw _ (List.mem_of_getElem? (i := 110) rfl))) (by decide) (backOf (W := 0) (own_rm25 l Z a0 hw [] (own_vB1_f18 y1) h0 n0 Z0 (gd1.2.2.2.2 : (own_vB1_f18 y1) < (56320 : Int32))) hZ (hw _ (List.mem_of_getElem? (i := 110) rfl)) (hw _ (List.mem_of_getElem? (i := 105) rfl)) (by decide) (by decide)) (g := (mkF m 56 #[.val (.ref a1), .val (.ref a2), .val (.int (1 : Int32)), .val (.int (1 : Int32)), .val (.int (own_vB1_f18 y1)), .val (.int (0 : Int32)), .val (.int (0 : Int32))] [(.int (own_vB1_f18 y1))])) rfl (by rw [hml]; rfl) (argsL := [(.int (own_vB1_f18 y1))]) (rest := []) (lenOf own_pd251 rfl) rfl (by show 2 * 0 + _ ≤ _; exact Nat.le_of_eq rfl) (hb hby own_d23_56) (fun _ _ => ⟨rfl, e11, (by decide : 0 + 0 ≤ _), (by decide : 0 + 0 ≤ _)⟩)
  dsimp only [Pt.U, Pt.locs, Pt.cells, Pt.slots] at X13 l13 y13 z13 st13 hQ13
  subst l13 y13 z13
  obtain ⟨hv13, N13q, e13⟩ := hQ13
  have N14 := Fr.app N12 N13q
  rw [show (own_f25) = (0 : Int32) from by first | rfl | decide | simp [own_f25]] at hv13
  subst hv13
  obtain ⟨fs, hr, hrun, hended, hW, hsame⟩ := X13.leave (hlocks := hlk) (v := some (.ref a1)) (fun h => by rw [Bd.returns] at h; cases h)
  refine ⟨_, _, pre0 _ ?_, hrun, hended, _, _, rfl, ?_, ⟨_, rfl⟩, hW, hsame.mono (by decide) (by decide)⟩
  · show Steps p.tables e below (s₁.setTop (mkF m 0 #[.val (.ref a1), .val (.ref a2), .unset, .unset, .unset, .unset, .unset] [])) _
    refine XS.aloadN X0.here hx rfl (hb hby own_d23_0) rfl rfl ?_
    show Steps p.tables e below (s₁.setTop (mkF m 1 #[.val (.ref a1), .val (.ref a2), .unset, .unset, .unset, .unset, .unset] [(.ref a1)])) _
    refine st1.trans ?_
    show Steps p.tables e below (T1.setTop (mkF m 4 #[.val (.ref a1), .val (.ref a2), .unset, .unset, .unset, .unset, .unset] [(.int (2 : Int32))])) _
    refine XS.iconst X1.here hx rfl (hb hby own_d23_4) ?_
    show Steps p.tables e below (T1.setTop (mkF m 5 #[.val (.ref a1), .val (.ref a2), .unset, .unset, .unset, .unset, .unset] [(.int (1 : Int32)), (.int (2 : Int32))])) _
    refine XS.isub X1.here hx rfl (hb hby own_d23_5) rfl ?_
    show Steps p.tables e below (T1.setTop (mkF m 6 #[.val (.ref a1), .val (.ref a2), .unset, .unset, .unset, .unset, .unset] [(.int (1 : Int32))])) _
    refine XS.istoreN X1.here hx rfl (hb hby own_d23_6) rfl (l' := #[.val (.ref a1), .val (.ref a2), .val (.int (1 : Int32)), .unset, .unset, .unset, .unset]) rfl ?_
    show Steps p.tables e below (T1.setTop (mkF m 7 #[.val (.ref a1), .val (.ref a2), .val (.int (1 : Int32)), .unset, .unset, .unset, .unset] [])) _
    refine XS.iconst X1.here hx rfl (hb hby own_d23_7) ?_
    show Steps p.tables e below (T1.setTop (mkF m 8 #[.val (.ref a1), .val (.ref a2), .val (.int (1 : Int32)), .unset, .unset, .unset, .unset] [(.int (0 : Int32))])) _
    refine XS.istoreN X1.here hx rfl (hb hby own_d23_8) rfl (l' := #[.val (.ref a1), .val (.ref a2), .val (.int (1 : Int32)), .val (.int (0 : Int32)), .unset, .unset, .unset]) rfl ?_
    show Steps p.tables e below (T1.setTop (mkF m 9 #[.val (.ref a1), .val (.ref a2), .val (.int (1 : Int32)), .val (.int (0 : Int32)), .unset, .unset, .unset] [])) _
    refine XS.iloadN X1.here hx rfl (hb hby own_d23_9) rfl ?_
    show Steps p.tables e below (T1.setTop (mkF m 10 #[.val (.ref a1), .val (.ref a2), .val (.int (1 : Int32)), .val (.int (0 : Int32)), .unset, .unset, .unset] [(.int (0 : Int32))])) _
    refine XS.iloadN X1.here hx rfl (hb hby own_d23_10) rfl ?_
    show Steps p.tables e below (T1.setTop (mkF m 11 #[.val (.ref a1), .val (.ref a2), .val (.int (1 : Int32)), .val (.int (0 : Int32)), .unset, .unset, .unset] [(.int (1 : Int32)), (.int (0 : Int32))])) _
    refine XS.icmpNo X1.here hx rfl (hb hby own_d23_11) rfl (flt (by decide : ¬ ((1 : Int32) < (0 : Int32)))).2.2.1 ?_
    show Steps p.tables e below (T1.setTop (mkF m 14 #[.val (.ref a1), .val (.ref a2), .val (.int (1 : Int32)), .val (.int (0 : Int32)), .unset, .unset, .unset] [])) _
    refine XS.aloadN X1.here hx rfl (hb hby own_d23_14) rfl rfl ?_
    show Steps p.tables e below (T1.setTop (mkF m 15 #[.val (.ref a1), .val (.ref a2), .val (.int (1 : Int32)), .val (.int (0 : Int32)), .unset, .unset, .unset] [(.ref a1)])) _
    refine XS.iloadN X1.here hx rfl (hb hby own_d23_15) rfl ?_
    show Steps p.tables e below (T1.setTop (mkF m 16 #[.val (.ref a1), .val (.ref a2), .val (.int (1 : Int32)), .val (.int (0 : Int32)), .unset, .unset, .unset] [(.int (0 : Int32)), (.ref a1)])) _
    refine st3.trans ?_
    show Steps p.tables e below (T3.setTop (mkF m 19 #[.val (.ref a1), .val (.ref a2), .val (.int (1 : Int32)), .val (.int (0 : Int32)), .unset, .unset, .unset] [(.int (own_vB0_f18 y0))])) _
    refine XS.istore X3.here hx rfl (hb hby own_d23_19) rfl (l' := #[.val (.ref a1), .val (.ref a2), .val (.int (1 : Int32)), .val (.int (0 : Int32)), .val (.int (own_vB0_f18 y0)), .unset, .unset]) rfl ?_
    show Steps p.tables e below (T3.setTop (mkF m 21 #[.val (.ref a1), .val (.ref a2), .val (.int (1 : Int32)), .val (.int (0 : Int32)), .val (.int (own_vB0_f18 y0)), .unset, .unset] [])) _
    refine XS.iload X3.here hx rfl (hb hby own_d23_21) rfl ?_
    show Steps p.tables e below (T3.setTop (mkF m 23 #[.val (.ref a1), .val (.ref a2), .val (.int (1 : Int32)), .val (.int (0 : Int32)), .val (.int (own_vB0_f18 y0)), .unset, .unset] [(.int (own_vB0_f18 y0))])) _
    refine st5 _ ?_
    show Steps p.tables e below (T5.setTop (mkF m 26 #[.val (.ref a1), .val (.ref a2), .val (.int (1 : Int32)), .val (.int (0 : Int32)), .val (.int (own_vB0_f18 y0)), .unset, .unset] [(.int (0 : Int32))])) _
    refine XS.ifYes X5.here hx rfl (pc0 := 26) (pc' := 51) rfl (hb hby own_d23_26) rfl ((if0 _ _).trans (teq (by decide : (0 : Int32) = (0 : Int32))).1) (by decide) (by decide) ?_
    show Steps p.tables e below (T5.setTop (mkF m 51 #[.val (.ref a1), .val (.ref a2), .val (.int (1 : Int32)), .val (.int (0 : Int32)), .val (.int (own_vB0_f18 y0)), .unset, .unset] [])) _
    refine XS.iconst X5.here hx rfl (hb hby own_d23_51) ?_
    show Steps p.tables e below (T5.setTop (mkF m 52 #[.val (.ref a1), .val (.ref a2), .val (.int (1 : Int32)), .val (.int (0 : Int32)), .val (.int (own_vB0_f18 y0)), .unset, .unset] [(.int (0 : Int32))])) _
    refine XS.istore X5.here hx rfl (hb hby own_d23_52) rfl (l' := #[.val (.ref a1), .val (.ref a2), .val (.int (1 : Int32)), .val (.int (0 : Int32)), .val (.int (own_vB0_f18 y0)), .val (.int (0 : Int32)), .unset]) rfl ?_
    show Steps p.tables e below (T5.setTop (mkF m 54 #[.val (.ref a1), .val (.ref a2), .val (.int (1 : Int32)), .val (.int (0 : Int32)), .val (.int (own_vB0_f18 y0)), .val (.int (0 : Int32)), .unset] [])) _
    refine XS.iload X5.here hx rfl (hb hby own_d23_54) rfl ?_
    show Steps p.tables e below (T5.setTop (mkF m 56 #[.val (.ref a1), .val (.ref a2), .val (.int (1 : Int32)), .val (.int (0 : Int32)), .val (.int (own_vB0_f18 y0)), .val (.int (0 : Int32)), .unset] [(.int (own_vB0_f18 y0))])) _
    refine st7 _ ?_
    show Steps p.tables e below (T7.setTop (mkF m 59 #[.val (.ref a1), .val (.ref a2), .val (.int (1 : Int32)), .val (.int (0 : Int32)), .val (.int (own_vB0_f18 y0)), .val (.int (0 : Int32)), .unset] [(.int (0 : Int32))])) _
    refine XS.ifYes X7.here hx rfl (pc0 := 59) (pc' := 83) rfl (hb hby own_d23_59) rfl ((if0 _ _).trans (teq (by decide : (0 : Int32) = (0 : Int32))).1) (by decide) (by decide) ?_
    show Steps p.tables e below (T7.setTop (mkF m 83 #[.val (.ref a1), .val (.ref a2), .val (.int (1 : Int32)), .val (.int (0 : Int32)), .val (.int (own_vB0_f18 y0)), .val (.int (0 : Int32)), .unset] [])) _
    refine XS.iconst X7.here hx rfl (hb hby own_d23_83) ?_
    show Steps p.tables e below (T7.setTop (mkF m 84 #[.val (.ref a1), .val (.ref a2), .val (.int (1 : Int32)), .val (.int (0 : Int32)), .val (.int (own_vB0_f18 y0)), .val (.int (0 : Int32)), .unset] [(.int (0 : Int32))])) _
    refine XS.istore X7.here hx rfl (hb hby own_d23_84) rfl (l' := #[.val (.ref a1), .val (.ref a2), .val (.int (1 : Int32)), .val (.int (0 : Int32)), .val (.int (own_vB0_f18 y0)), .val (.int (0 : Int32)), .val (.int (0 : Int32))]) rfl ?_
    show Steps p.tables e below (T7.setTop (mkF m 86 #[.val (.ref a1), .val (.ref a2), .val (.int (1 : Int32)), .val (.int (0 : Int32)), .val (.int (own_vB0_f18 y0)), .val (.int (0 : Int32)), .val (.int (0 : Int32))] [])) _
    refine XS.iload X7.here hx rfl (hb hby own_d23_86) rfl ?_
    show Steps p.tables e below (T7.setTop (mkF m 88 #[.val (.ref a1), .val (.ref a2), .val (.int (1 : Int32)), .val (.int (0 : Int32)), .val (.int (own_vB0_f18 y0)), .val (.int (0 : Int32)), .val (.int (0 : Int32))] [(.int (0 : Int32))])) _
    refine XS.ifNo X7.here hx rfl (hb hby own_d23_88) rfl ((if0 _ _).trans (teq (by decide : (0 : Int32) = (0 : Int32))).2) ?_
    show Steps p.tables e below (T7.setTop (mkF m 91 #[.val (.ref a1), .val (.ref a2), .val (.int (1 : Int32)), .val (.int (0 : Int32)), .val (.int (own_vB0_f18 y0)), .val (.int (0 : Int32)), .val (.int (0 : Int32))] [])) _
    refine XS.iload X7.here hx rfl (hb hby own_d23_91) rfl ?_
    show Steps p.tables e below (T7.setTop (mkF m 93 #[.val (.ref a1), .val (.ref a2), .val (.int (1 : Int32)), .val (.int (0 : Int32)), .val (.int (own_vB0_f18 y0)), .val (.int (0 : Int32)), .val (.int (0 : Int32))] [(.int (0 : Int32))])) _
    refine XS.ifYes X7.here hx rfl (pc0 := 93) (pc' := 115) rfl (hb hby own_d23_93) rfl ((if0 _ _).trans (teq (by decide : (0 : Int32) = (0 : Int32))).1) (by decide) (by decide) ?_
    show Steps p.tables e below (T7.setTop (mkF m 115 #[.val (.ref a1), .val (.ref a2), .val (.int (1 : Int32)), .val (.int (0 : Int32)), .val (.int (own_vB0_f18 y0)), .val (.int (0 : Int32)), .val (.int (0 : Int32))] [])) _
    refine XS.iinc X7.here hx rfl (hb hby own_d23_115) rfl (l' := #[.val (.ref a1), .val (.ref a2), .val (.int (1 : Int32)), .val (.int (1 : Int32)), .val (.int (own_vB0_f18 y0)), .val (.int (0 : Int32)), .val (.int (0 : Int32))]) rfl ?_
    show Steps p.tables e below (T7.setTop (mkF m 118 #[.val (.ref a1), .val (.ref a2), .val (.int (1 : Int32)), .val (.int (1 : Int32)), .val (.int (own_vB0_f18 y0)), .val (.int (0 : Int32)), .val (.int (0 : Int32))] [])) _
    refine XS.goto X7.here hx rfl (pc0 := 118) (pc' := 9) rfl (hb hby own_d23_118) (by decide) (by decide) ?_
    show Steps p.tables e below (T7.setTop (mkF m 9 #[.val (.ref a1), .val (.ref a2), .val (.int (1 : Int32)), .val (.int (1 : Int32)), .val (.int (own_vB0_f18 y0)), .val (.int (0 : Int32)), .val (.int (0 : Int32))] [])) _
    refine XS.iloadN X7.here hx rfl (hb hby own_d23_9) rfl ?_
    show Steps p.tables e below (T7.setTop (mkF m 10 #[.val (.ref a1), .val (.ref a2), .val (.int (1 : Int32)), .val (.int (1 : Int32)), .val (.int (own_vB0_f18 y0)), .val (.int (0 : Int32)), .val (.int (0 : Int32))] [(.int (1 : Int32))])) _
    refine XS.iloadN X7.here hx rfl (hb hby own_d23_10) rfl ?_
    show Steps p.tables e below (T7.setTop (mkF m 11 #[.val (.ref a1), .val (.ref a2), .val (.int (1 : Int32)), .val (.int (1 : Int32)), .val (.int (own_vB0_f18 y0)), .val (.int (0 : Int32)), .val (.int (0 : Int32))] [(.int (1 : Int32)), (.int (1 : Int32))])) _
    refine XS.icmpNo X7.here hx rfl (hb hby own_d23_11) rfl (flt (by decide : ¬ ((1 : Int32) < (1 : Int32)))).2.2.1 ?_
    show Steps p.tables e below (T7.setTop (mkF m 14 #[.val (.ref a1), .val (.ref a2), .val (.int (1 : Int32)), .val (.int (1 : Int32)), .val (.int (own_vB0_f18 y0)), .val (.int (0 : Int32)), .val (.int (0 : Int32))] [])) _
    refine XS.aloadN X7.here hx rfl (hb hby own_d23_14) rfl rfl ?_
    show Steps p.tables e below (T7.setTop (mkF m 15 #[.val (.ref a1), .val (.ref a2), .val (.int (1 : Int32)), .val (.int (1 : Int32)), .val (.int (own_vB0_f18 y0)), .val (.int (0 : Int32)), .val (.int (0 : Int32))] [(.ref a1)])) _
    refine XS.iloadN X7.here hx rfl (hb hby own_d23_15) rfl ?_
    show Steps p.tables e below (T7.setTop (mkF m 16 #[.val (.ref a1), .val (.ref a2), .val (.int (1 : Int32)), .val (.int (1 : Int32)), .val (.int (own_vB0_f18 y0)), .val (.int (0 : Int32)), .val (.int (0 : Int32))] [(.int (1 : Int32)), (.ref a1)])) _
    refine st9.trans ?_
    show Steps p.tables e below (T9.setTop (mkF m 19 #[.val (.ref a1), .val (.ref a2), .val (.int (1 : Int32)), .val (.int (1 : Int32)), .val (.int (own_vB0_f18 y0)), .val (.int (0 : Int32)), .val (.int (0 : Int32))] [(.int (own_vB1_f18 y1))])) _
    refine XS.istore X9.here hx rfl (hb hby own_d23_19) rfl (l' := #[.val (.ref a1), .val (.ref a2), .val (.int (1 : Int32)), .val (.int (1 : Int32)), .val (.int (own_vB1_f18 y1)), .val (.int (0 : Int32)), .val (.int (0 : Int32))]) rfl ?_
    show Steps p.tables e below (T9.setTop (mkF m 21 #[.val (.ref a1), .val (.ref a2), .val (.int (1 : Int32)), .val (.int (1 : Int32)), .val (.int (own_vB1_f18 y1)), .val (.int (0 : Int32)), .val (.int (0 : Int32))] [])) _
    refine XS.iload X9.here hx rfl (hb hby own_d23_21) rfl ?_
    show Steps p.tables e below (T9.setTop (mkF m 23 #[.val (.ref a1), .val (.ref a2), .val (.int (1 : Int32)), .val (.int (1 : Int32)), .val (.int (own_vB1_f18 y1)), .val (.int (0 : Int32)), .val (.int (0 : Int32))] [(.int (own_vB1_f18 y1))])) _
    refine st11 _ ?_
    show Steps p.tables e below (T11.setTop (mkF m 26 #[.val (.ref a1), .val (.ref a2), .val (.int (1 : Int32)), .val (.int (1 : Int32)), .val (.int (own_vB1_f18 y1)), .val (.int (0 : Int32)), .val (.int (0 : Int32))] [(.int (0 : Int32))])) _
    refine XS.ifYes X11.here hx rfl (pc0 := 26) (pc' := 51) rfl (hb hby own_d23_26) rfl ((if0 _ _).trans (teq (by decide : (0 : Int32) = (0 : Int32))).1) (by decide) (by decide) ?_
    show Steps p.tables e below (T11.setTop (mkF m 51 #[.val (.ref a1), .val (.ref a2), .val (.int (1 : Int32)), .val (.int (1 : Int32)), .val (.int (own_vB1_f18 y1)), .val (.int (0 : Int32)), .val (.int (0 : Int32))] [])) _
    refine XS.iconst X11.here hx rfl (hb hby own_d23_51) ?_
    show Steps p.tables e below (T11.setTop (mkF m 52 #[.val (.ref a1), .val (.ref a2), .val (.int (1 : Int32)), .val (.int (1 : Int32)), .val (.int (own_vB1_f18 y1)), .val (.int (0 : Int32)), .val (.int (0 : Int32))] [(.int (0 : Int32))])) _
    refine XS.istore X11.here hx rfl (hb hby own_d23_52) rfl (l' := #[.val (.ref a1), .val (.ref a2), .val (.int (1 : Int32)), .val (.int (1 : Int32)), .val (.int (own_vB1_f18 y1)), .val (.int (0 : Int32)), .val (.int (0 : Int32))]) rfl ?_
    show Steps p.tables e below (T11.setTop (mkF m 54 #[.val (.ref a1), .val (.ref a2), .val (.int (1 : Int32)), .val (.int (1 : Int32)), .val (.int (own_vB1_f18 y1)), .val (.int (0 : Int32)), .val (.int (0 : Int32))] [])) _
    refine XS.iload X11.here hx rfl (hb hby own_d23_54) rfl ?_
    show Steps p.tables e below (T11.setTop (mkF m 56 #[.val (.ref a1), .val (.ref a2), .val (.int (1 : Int32)), .val (.int (1 : Int32)), .val (.int (own_vB1_f18 y1)), .val (.int (0 : Int32)), .val (.int (0 : Int32))] [(.int (own_vB1_f18 y1))])) _
    refine st13 _ ?_
    show Steps p.tables e below (T13.setTop (mkF m 59 #[.val (.ref a1), .val (.ref a2), .val (.int (1 : Int32)), .val (.int (1 : Int32)), .val (.int (own_vB1_f18 y1)), .val (.int (0 : Int32)), .val (.int (0 : Int32))] [(.int (0 : Int32))])) _
    refine XS.ifYes X13.here hx rfl (pc0 := 59) (pc' := 83) rfl (hb hby own_d23_59) rfl ((if0 _ _).trans (teq (by decide : (0 : Int32) = (0 : Int32))).1) (by decide) (by decide) ?_
    show Steps p.tables e below (T13.setTop (mkF m 83 #[.val (.ref a1), .val (.ref a2), .val (.int (1 : Int32)), .val (.int (1 : Int32)), .val (.int (own_vB1_f18 y1)), .val (.int (0 : Int32)), .val (.int (0 : Int32))] [])) _
    refine XS.iconst X13.here hx rfl (hb hby own_d23_83) ?_
    show Steps p.tables e below (T13.setTop (mkF m 84 #[.val (.ref a1), .val (.ref a2), .val (.int (1 : Int32)), .val (.int (1 : Int32)), .val (.int (own_vB1_f18 y1)), .val (.int (0 : Int32)), .val (.int (0 : Int32))] [(.int (0 : Int32))])) _
    refine XS.istore X13.here hx rfl (hb hby own_d23_84) rfl (l' := #[.val (.ref a1), .val (.ref a2), .val (.int (1 : Int32)), .val (.int (1 : Int32)), .val (.int (own_vB1_f18 y1)), .val (.int (0 : Int32)), .val (.int (0 : Int32))]) rfl ?_
    show Steps p.tables e below (T13.setTop (mkF m 86 #[.val (.ref a1), .val (.ref a2), .val (.int (1 : Int32)), .val (.int (1 : Int32)), .val (.int (own_vB1_f18 y1)), .val (.int (0 : Int32)), .val (.int (0 : Int32))] [])) _
    refine XS.iload X13.here hx rfl (hb hby own_d23_86) rfl ?_
    show Steps p.tables e below (T13.setTop (mkF m 88 #[.val (.ref a1), .val (.ref a2), .val (.int (1 : Int32)), .val (.int (1 : Int32)), .val (.int (own_vB1_f18 y1)), .val (.int (0 : Int32)), .val (.int (0 : Int32))] [(.int (0 : Int32))])) _
    refine XS.ifNo X13.here hx rfl (hb hby own_d23_88) rfl ((if0 _ _).trans (teq (by decide : (0 : Int32) = (0 : Int32))).2) ?_
    show Steps p.tables e below (T13.setTop (mkF m 91 #[.val (.ref a1), .val (.ref a2), .val (.int (1 : Int32)), .val (.int (1 : Int32)), .val (.int (own_vB1_f18 y1)), .val (.int (0 : Int32)), .val (.int (0 : Int32))] [])) _
    refine XS.iload X13.here hx rfl (hb hby own_d23_91) rfl ?_
    show Steps p.tables e below (T13.setTop (mkF m 93 #[.val (.ref a1), .val (.ref a2), .val (.int (1 : Int32)), .val (.int (1 : Int32)), .val (.int (own_vB1_f18 y1)), .val (.int (0 : Int32)), .val (.int (0 : Int32))] [(.int (0 : Int32))])) _
    refine XS.ifYes X13.here hx rfl (pc0 := 93) (pc' := 115) rfl (hb hby own_d23_93) rfl ((if0 _ _).trans (teq (by decide : (0 : Int32) = (0 : Int32))).1) (by decide) (by decide) ?_
    show Steps p.tables e below (T13.setTop (mkF m 115 #[.val (.ref a1), .val (.ref a2), .val (.int (1 : Int32)), .val (.int (1 : Int32)), .val (.int (own_vB1_f18 y1)), .val (.int (0 : Int32)), .val (.int (0 : Int32))] [])) _
    refine XS.iinc X13.here hx rfl (hb hby own_d23_115) rfl (l' := #[.val (.ref a1), .val (.ref a2), .val (.int (1 : Int32)), .val (.int (2 : Int32)), .val (.int (own_vB1_f18 y1)), .val (.int (0 : Int32)), .val (.int (0 : Int32))]) rfl ?_
    show Steps p.tables e below (T13.setTop (mkF m 118 #[.val (.ref a1), .val (.ref a2), .val (.int (1 : Int32)), .val (.int (2 : Int32)), .val (.int (own_vB1_f18 y1)), .val (.int (0 : Int32)), .val (.int (0 : Int32))] [])) _
    refine XS.goto X13.here hx rfl (pc0 := 118) (pc' := 9) rfl (hb hby own_d23_118) (by decide) (by decide) ?_
    show Steps p.tables e below (T13.setTop (mkF m 9 #[.val (.ref a1), .val (.ref a2), .val (.int (1 : Int32)), .val (.int (2 : Int32)), .val (.int (own_vB1_f18 y1)), .val (.int (0 : Int32)), .val (.int (0 : Int32))] [])) _
    refine XS.iloadN X13.here hx rfl (hb hby own_d23_9) rfl ?_
    show Steps p.tables e below (T13.setTop (mkF m 10 #[.val (.ref a1), .val (.ref a2), .val (.int (1 : Int32)), .val (.int (2 : Int32)), .val (.int (own_vB1_f18 y1)), .val (.int (0 : Int32)), .val (.int (0 : Int32))] [(.int (2 : Int32))])) _
    refine XS.iloadN X13.here hx rfl (hb hby own_d23_10) rfl ?_
    show Steps p.tables e below (T13.setTop (mkF m 11 #[.val (.ref a1), .val (.ref a2), .val (.int (1 : Int32)), .val (.int (2 : Int32)), .val (.int (own_vB1_f18 y1)), .val (.int (0 : Int32)), .val (.int (0 : Int32))] [(.int (1 : Int32)), (.int (2 : Int32))])) _
    refine XS.icmpYes X13.here hx rfl (pc0 := 11) (pc' := 121) rfl (hb hby own_d23_11) rfl (tlt (by decide : (1 : Int32) < (2 : Int32))).2.2.1 (by decide) (by decide) ?_
    show Steps p.tables e below (T13.setTop (mkF m 121 #[.val (.ref a1), .val (.ref a2), .val (.int (1 : Int32)), .val (.int (2 : Int32)), .val (.int (own_vB1_f18 y1)), .val (.int (0 : Int32)), .val (.int (0 : Int32))] [])) _
    refine XS.aloadN X13.here hx rfl (hb hby own_d23_121) rfl rfl ?_
    show Steps p.tables e below (T13.setTop (mkF m 122 #[.val (.ref a1), .val (.ref a2), .val (.int (1 : Int32)), .val (.int (2 : Int32)), .val (.int (own_vB1_f18 y1)), .val (.int (0 : Int32)), .val (.int (0 : Int32))] [(.ref a1)])) _
    jvm_step X13.here [X13.here.top, hx, (hb hby own_d23_122), X13.method', Bd.returns, Value.isRef, FieldType.isReference]
    first | (intro acts; rw [hr _ acts rfl rfl rfl]) | rw [hr _ _ rfl rfl rfl]
    exact Steps.refl _
  · show own_vB_Q23 Z a1 a2 w_value_a1 k_w_value_a1 y0 y1 w_COMPACT_STRINGS w_SIOOBE_FORMATTER h0 n0 _ T13.heap _
    rw [e13]
    exact ⟨(by rw [own_vB_f23]), N14, rfl⟩
-- body 13, variant A
theorem own_d13_0 : decode prog_7_method_8_code 0 = .ok (.aload_n 0, 1) := by decide +kernel
theorem own_d13_1 : decode prog_7_method_8_code 1 = .ok (.invokevirtual 42, 3) := by decide +kernel
theorem own_d13_4 : decode prog_7_method_8_code 4 = .ok (.ifCond .ne 14, 3) := by decide +kernel
theorem own_d13_7 : decode prog_7_method_8_code 7 = .ok (.aload_n 0, 1) := by decide +kernel
theorem own_d13_8 : decode prog_7_method_8_code 8 = .ok (.invokestatic 46, 3) := by decide +kernel
theorem own_d13_11 : decode prog_7_method_8_code 11 = .ok (.ifCond .ge 7, 3) := by decide +kernel
theorem own_d13_14 : decode prog_7_method_8_code 14 = .ok (.iconst 1, 1) := by decide +kernel
theorem own_d13_15 : decode prog_7_method_8_code 15 = .ok (.goto 4, 3) := by decide +kernel
theorem own_d13_19 : decode prog_7_method_8_code 19 = .ok (.ireturn, 1) := by decide +kernel
theorem own_vA_ef13 (m : MethodId) (x0 : Addr) : entryFrame m #[(.ref x0)] 1 = mkF m 0 #[.val (.ref x0)] [] := by first | (simp [entryFrame, mkF, argsToLocals, Value.category]; done) | rfl
def own_vA_f13 : Int32 := (1 : Int32)
def own_vA_Q13 (Z : State) (a1 : Addr) (w_value_a1 : Addr) (k_w_value_a1 : ClassId) (y0 : Int32) (w_COMPACT_STRINGS : Int32) (w_SIOOBE_FORMATTER : Value) (h0 : Heap) (n0 : Nat) (v : Option Value) (h : Heap) (L : List Loc) : Prop := v = some (.int (own_vA_f13)) ∧ Fr n0 L ∧ h = h0
set_option maxRecDepth 65536 in
set_option maxHeartbeats 40000000 in
theorem own_vA_rm13 (l : Launch) (Z : State) (a0 : Array Value) (hw : ∀ d ∈ tables_1, d.before a0 Z = true) (ws : List Jvm.Cond) (a1 : Addr) (w_value_a1 : Addr) (k_w_value_a1 : ClassId) (y0 : Int32) (w_COMPACT_STRINGS : Int32) (w_SIOOBE_FORMATTER : Value) (h0 : Heap) (n0 : Nat) (Z0 : n0 ≤ h0.size) (O0 : Old Z n0 h0) (V_w_value_a1 : Arv Z h0 w_value_a1 k_w_value_a1 .byte (1 : Int32) [(.int y0)] (.int (0 : Int32))) (gd0 : own_good y0) (hcs : ¬ w_COMPACT_STRINGS = (0 : Int32)) (hrf : w_SIOOBE_FORMATTER.isRef = true) (F_value_a1 : Fld Z h0 a1 "java/lang/String" "value" "[B" (.ref w_value_a1)) (E_a1 : Exa Z h0 a1 "java/lang/String") (S_COMPACT_STRINGS : Sta Z Z.heap "java/lang/String" "COMPACT_STRINGS" "Z" (.int w_COMPACT_STRINGS)) (S_SIOOBE_FORMATTER : Sta Z Z.heap "jdk/internal/util/Preconditions" "SIOOBE_FORMATTER" "Ljava/util/function/BiFunction;" w_SIOOBE_FORMATTER) (F_coder_a1 : Fld Z h0 a1 "java/lang/String" "coder" "B" (.int (0 : Int32))) :
    MetFree l (⟨"com/example/nanshe/nanshe/engine/Request", "isName", "(Ljava/lang/String;)Z"⟩ : MethodName) (head1 (Jvm.Cond.code (⟨"com/example/nanshe/nanshe/engine/Request", "isName", "(Ljava/lang/String;)Z"⟩ : MethodName) prog_7_method_8_code 1 (some .boolean) :: ws) ({ frames := 5, cells := 0, slots := 0, locals := 67 } : Room)) (fun a U => a = #[(.ref a1)] ∧ Z.Warmed39 U.vm ∧ U.heap = h0) (fun _ _ _ _ _ => True) (fun _ U o U' => ∃ v L, o = .returned v ∧ own_vA_Q13 Z a1 w_value_a1 k_w_value_a1 y0 w_COMPACT_STRINGS w_SIOOBE_FORMATTER h0 n0 v U'.heap L ∧ FrameEnd U o U' L ({ frames := 5, cells := 0, slots := 0, locals := 67 } : Room).cells ({ frames := 5, cells := 0, slots := 0, locals := 67 } : Room).slots) := by
  refine MetFree.of_bodySF (plainFor_of_name own_pn227) hisR ?_
  intro p e s m args below meth c s₁ Bd hml0 hP hK
  obtain ⟨rfl, hZ, hh⟩ := hP
  have hx := Bd.exec
  have hby := Bd.bytes
  have hml : c.maxLocals = 1 := hml0
  have hown : s.vm.findClass "com/example/nanshe/nanshe/engine/Request" = some m.cls := findClass_of_methodNamed Bd.named
  have hnm := (name_of_methodNamed Bd.named Bd.method).1
  have X0 : Stand p l e ({ frames := 5, cells := 0, slots := 0, locals := 67 } : Room) s m #[(.ref a1)] below meth c s₁ [] 0 0 := Stand.of_body Bd
  have hS0 : s.Since s.vm 0 := (State.WarmedH.refl s).since 0
  have hk0 : 0 ≤ h0.size := Nat.zero_le _
  have hlk := Bd.notSynchronized
  have e0 : s₁.heap = h0 := by rw [← hh, Bd.state]; rfl
  have N0 := Fr.nil n0
  have pre0 : ∀ t, Steps p.tables e below (s₁.setTop (mkF m 0 #[.val (.ref a1)] [])) t → Steps p.tables e below (s₁.setTop (entryFrame m #[(.ref a1)] 1)) t := fun t k => castTop (own_vA_ef13 m a1) k
  obtain ⟨cq1, kq1, q1a, q1b, q1c⟩ := isOf hZ e0 E_a1
  obtain ⟨v1, _, ⟨T1, L1, k1, n1⟩, -, X1, ⟨Lc1, hQ1, l1, y1, z1⟩, st1⟩ := X0.virtualBack hx (y := (⟨"java/lang/String", "isEmpty", "()Z"⟩ : MethodName)) (z := (⟨"java/lang/String", "isEmpty", "()Z"⟩ : MethodName)) hown (mvT hZ (hw _ (List.mem_of_getElem? (i := 60) rfl))) (mvT hZ (hw _ (List.mem_of_getElem? (i := 61) rfl))) (notFace_of_selects (args := #[]) (mvT hZ (hw _ (List.mem_of_getElem? (i := 63) rfl)))) (mvT hZ (hw _ (List.mem_of_getElem? (i := 63) rfl))) (mvT hZ (hw _ (List.mem_of_getElem? (i := 62) rfl))) (by decide) (backOf (W := 0) (own_vA_rm14 l Z a0 hw [] a1 w_value_a1 k_w_value_a1 y0 h0 n0 Z0 V_w_value_a1 F_value_a1) hZ (hw _ (List.mem_of_getElem? (i := 64) rfl)) (hw _ (List.mem_of_getElem? (i := 16) rfl)) (by decide) (by decide)) q1a q1c (g := (mkF m 1 #[.val (.ref a1)] [(.ref a1)])) rfl (by rw [hml]; rfl) (Steps.refl _) (argsL := []) (rest := []) (lenOf own_pd205 rfl) rfl (by show 2 * 0 + _ ≤ _; exact Nat.le_of_eq rfl) (hb hby own_d13_1) (fun _ _ => ⟨rfl, e0, (by decide : 0 + 0 ≤ _), (by decide : 0 + 0 ≤ _)⟩)
  dsimp only [Pt.U, Pt.locs, Pt.cells, Pt.slots] at X1 l1 y1 z1 st1 hQ1
  subst l1 y1 z1
  obtain ⟨hv1, N1q, e1⟩ := hQ1
  have N2 := Fr.app N0 N1q
  rw [show (own_vA_f14) = (0 : Int32) from by first | rfl | decide | simp [own_vA_f14]] at hv1
  subst hv1
  obtain ⟨v3, _, ⟨T3, L3, k3, n3⟩, -, X3, ⟨Lc3, hQ3, l3, y3, z3⟩, st3⟩ := Jvm.LawKit.callS X1 hx (y := (⟨"com/example/nanshe/nanshe/engine/Request", "breakIn", "(Ljava/lang/String;)I"⟩ : MethodName)) hown (mvT hZ (hw _ (List.mem_of_getElem? (i := 65) rfl))) (mvT hZ (hw _ (List.mem_of_getElem? (i := 66) rfl))) (mvT hZ (hw _ (List.mem_of_getElem? (i := 2) rfl))) (mvT hZ (hw _ (List.mem_of_getElem? (i := 67) rfl))) (by decide) (backOf (W := 0) (own_vA_rm15 l Z a0 hw [] a1 w_value_a1 k_w_value_a1 y0 w_COMPACT_STRINGS w_SIOOBE_FORMATTER h0 n0 Z0 O0 V_w_value_a1 gd0 hcs hrf S_COMPACT_STRINGS F_value_a1 F_coder_a1 E_a1 S_SIOOBE_FORMATTER) hZ (hw _ (List.mem_of_getElem? (i := 67) rfl)) (hw _ (List.mem_of_getElem? (i := 2) rfl)) (by decide) (by decide)) (g := (mkF m 8 #[.val (.ref a1)] [(.ref a1)])) rfl (by rw [hml]; rfl) (argsL := [(.ref a1)]) (rest := []) (lenOf own_pd284 rfl) rfl (by show 2 * 0 + _ ≤ _; exact Nat.le_of_eq rfl) (hb hby own_d13_8) (fun _ _ => ⟨rfl, e1, (by decide : 0 + 0 ≤ _), (by decide : 0 + 0 ≤ _)⟩)
  dsimp only [Pt.U, Pt.locs, Pt.cells, Pt.slots] at X3 l3 y3 z3 st3 hQ3
  subst l3 y3 z3
  obtain ⟨hv3, N3q, e3⟩ := hQ3
  have N4 := Fr.app N2 N3q
  rw [show (own_vA_f15) = (-1 : Int32) from by first | rfl | decide | simp [own_vA_f15]] at hv3
  subst hv3
  obtain ⟨fs, hr, hrun, hended, hW, hsame⟩ := X3.leave (hlocks := hlk) (v := some (.int (1 : Int32))) (fun h => by rw [Bd.returns] at h; cases h)
  refine ⟨_, _, pre0 _ ?_, hrun, hended, _, _, rfl, ?_, ⟨_, rfl⟩, hW, hsame.mono (by decide) (by decide)⟩
  · show Steps p.tables e below (s₁.setTop (mkF m 0 #[.val (.ref a1)] [])) _
    refine XS.aloadN X0.here hx rfl (hb hby own_d13_0) rfl rfl ?_
    show Steps p.tables e below (s₁.setTop (mkF m 1 #[.val (.ref a1)] [(.ref a1)])) _
    refine st1.trans ?_
    show Steps p.tables e below (T1.setTop (mkF m 4 #[.val (.ref a1)] [(.int (0 : Int32))])) _
    refine XS.ifNo X1.here hx rfl (hb hby own_d13_4) rfl ((if0 _ _).trans (teq (by decide : (0 : Int32) = (0 : Int32))).2) ?_
    show Steps p.tables e below (T1.setTop (mkF m 7 #[.val (.ref a1)] [])) _
    refine XS.aloadN X1.here hx rfl (hb hby own_d13_7) rfl rfl ?_
    show Steps p.tables e below (T1.setTop (mkF m 8 #[.val (.ref a1)] [(.ref a1)])) _
    refine st3 _ ?_
    show Steps p.tables e below (T3.setTop (mkF m 11 #[.val (.ref a1)] [(.int (-1 : Int32))])) _
    refine XS.ifNo X3.here hx rfl (hb hby own_d13_11) rfl ((if0 _ _).trans (tlt (by decide : (-1 : Int32) < (0 : Int32))).2.1) ?_
    show Steps p.tables e below (T3.setTop (mkF m 14 #[.val (.ref a1)] [])) _
    refine XS.iconst X3.here hx rfl (hb hby own_d13_14) ?_
    show Steps p.tables e below (T3.setTop (mkF m 15 #[.val (.ref a1)] [(.int (1 : Int32))])) _
    refine XS.goto X3.here hx rfl (pc0 := 15) (pc' := 19) rfl (hb hby own_d13_15) (by decide) (by decide) ?_
    show Steps p.tables e below (T3.setTop (mkF m 19 #[.val (.ref a1)] [(.int (1 : Int32))])) _
    exact retN X3 hx (t := .boolean) Bd.returns (by simp) (hb hby own_d13_19) hr
  · show own_vA_Q13 Z a1 w_value_a1 k_w_value_a1 y0 w_COMPACT_STRINGS w_SIOOBE_FORMATTER h0 n0 _ T3.heap _
    rw [e3]
    exact ⟨(by rw [own_vA_f13]), N4, rfl⟩
-- body 13, variant B
theorem own_vB_ef13 (m : MethodId) (x0 : Addr) : entryFrame m #[(.ref x0)] 1 = mkF m 0 #[.val (.ref x0)] [] := by first | (simp [entryFrame, mkF, argsToLocals, Value.category]; done) | rfl
def own_vB_f13 : Int32 := (1 : Int32)
def own_vB_Q13 (Z : State) (a1 : Addr) (w_value_a1 : Addr) (k_w_value_a1 : ClassId) (y0 : Int32) (y1 : Int32) (w_COMPACT_STRINGS : Int32) (w_SIOOBE_FORMATTER : Value) (h0 : Heap) (n0 : Nat) (v : Option Value) (h : Heap) (L : List Loc) : Prop := v = some (.int (own_vB_f13)) ∧ Fr n0 L ∧ h = h0
set_option maxRecDepth 65536 in
set_option maxHeartbeats 40000000 in
theorem own_vB_rm13 (l : Launch) (Z : State) (a0 : Array Value) (hw : ∀ d ∈ tables_1, d.before a0 Z = true) (ws : List Jvm.Cond) (a1 : Addr) (w_value_a1 : Addr) (k_w_value_a1 : ClassId) (y0 : Int32) (y1 : Int32) (w_COMPACT_STRINGS : Int32) (w_SIOOBE_FORMATTER : Value) (h0 : Heap) (n0 : Nat) (Z0 : n0 ≤ h0.size) (O0 : Old Z n0 h0) (V_w_value_a1 : Arv Z h0 w_value_a1 k_w_value_a1 .byte (2 : Int32) [(.int y0), (.int y1)] (.int (0 : Int32))) (gd0 : own_good y0) (gd1 : own_good y1) (hcs : ¬ w_COMPACT_STRINGS = (0 : Int32)) (hrf : w_SIOOBE_FORMATTER.isRef = true) (F_value_a1 : Fld Z h0 a1 "java/lang/String" "value" "[B" (.ref w_value_a1)) (E_a1 : Exa Z h0 a1 "java/lang/String") (S_COMPACT_STRINGS : Sta Z Z.heap "java/lang/String" "COMPACT_STRINGS" "Z" (.int w_COMPACT_STRINGS)) (S_SIOOBE_FORMATTER : Sta Z Z.heap "jdk/internal/util/Preconditions" "SIOOBE_FORMATTER" "Ljava/util/function/BiFunction;" w_SIOOBE_FORMATTER) (F_coder_a1 : Fld Z h0 a1 "java/lang/String" "coder" "B" (.int (0 : Int32))) :
    MetFree l (⟨"com/example/nanshe/nanshe/engine/Request", "isName", "(Ljava/lang/String;)Z"⟩ : MethodName) (head1 (Jvm.Cond.code (⟨"com/example/nanshe/nanshe/engine/Request", "isName", "(Ljava/lang/String;)Z"⟩ : MethodName) prog_7_method_8_code 1 (some .boolean) :: ws) ({ frames := 5, cells := 0, slots := 0, locals := 67 } : Room)) (fun a U => a = #[(.ref a1)] ∧ Z.Warmed39 U.vm ∧ U.heap = h0) (fun _ _ _ _ _ => True) (fun _ U o U' => ∃ v L, o = .returned v ∧ own_vB_Q13 Z a1 w_value_a1 k_w_value_a1 y0 y1 w_COMPACT_STRINGS w_SIOOBE_FORMATTER h0 n0 v U'.heap L ∧ FrameEnd U o U' L ({ frames := 5, cells := 0, slots := 0, locals := 67 } : Room).cells ({ frames := 5, cells := 0, slots := 0, locals := 67 } : Room).slots) := by
  refine MetFree.of_bodySF (plainFor_of_name own_pn227) hisR ?_
  intro p e s m args below meth c s₁ Bd hml0 hP hK
  obtain ⟨rfl, hZ, hh⟩ := hP
  have hx := Bd.exec
  have hby := Bd.bytes
  have hml : c.maxLocals = 1 := hml0
  have hown : s.vm.findClass "com/example/nanshe/nanshe/engine/Request" = some m.cls := findClass_of_methodNamed Bd.named
  have hnm := (name_of_methodNamed Bd.named Bd.method).1
  have X0 : Stand p l e ({ frames := 5, cells := 0, slots := 0, locals := 67 } : Room) s m #[(.ref a1)] below meth c s₁ [] 0 0 := Stand.of_body Bd
  have hS0 : s.Since s.vm 0 := (State.WarmedH.refl s).since 0
  have hk0 : 0 ≤ h0.size := Nat.zero_le _
  have hlk := Bd.notSynchronized
  have e0 : s₁.heap = h0 := by rw [← hh, Bd.state]; rfl
  have N0 := Fr.nil n0
  have pre0 : ∀ t, Steps p.tables e below (s₁.setTop (mkF m 0 #[.val (.ref a1)] [])) t → Steps p.tables e below (s₁.setTop (entryFrame m #[(.ref a1)] 1)) t := fun t k => castTop (own_vB_ef13 m a1) k
  obtain ⟨cq1, kq1, q1a, q1b, q1c⟩ := isOf hZ e0 E_a1
  obtain ⟨v1, _, ⟨T1, L1, k1, n1⟩, -, X1, ⟨Lc1, hQ1, l1, y1, z1⟩, st1⟩ := X0.virtualBack hx (y := (⟨"java/lang/String", "isEmpty", "()Z"⟩ : MethodName)) (z := (⟨"java/lang/String", "isEmpty", "()Z"⟩ : MethodName)) hown (mvT hZ (hw _ (List.mem_of_getElem? (i := 60) rfl))) (mvT hZ (hw _ (List.mem_of_getElem? (i := 61) rfl))) (notFace_of_selects (args := #[]) (mvT hZ (hw _ (List.mem_of_getElem? (i := 63) rfl)))) (mvT hZ (hw _ (List.mem_of_getElem? (i := 63) rfl))) (mvT hZ (hw _ (List.mem_of_getElem? (i := 62) rfl))) (by decide) (backOf (W := 0) (own_vB_rm14 l Z a0 hw [] a1 w_value_a1 k_w_value_a1 y0 y1 h0 n0 Z0 V_w_value_a1 F_value_a1) hZ (hw _ (List.mem_of_getElem? (i := 64) rfl)) (hw _ (List.mem_of_getElem? (i := 16) rfl)) (by decide) (by decide)) q1a q1c (g := (mkF m 1 #[.val (.ref a1)] [(.ref a1)])) rfl (by rw [hml]; rfl) (Steps.refl _) (argsL := []) (rest := []) (lenOf own_pd205 rfl) rfl (by show 2 * 0 + _ ≤ _; exact Nat.le_of_eq rfl) (hb hby own_d13_1) (fun _ _ => ⟨rfl, e0, (by decide : 0 + 0 ≤ _), (by decide : 0 + 0 ≤ _)⟩)
  dsimp only [Pt.U, Pt.locs, Pt.cells, Pt.slots] at X1 l1 y1 z1 st1 hQ1
  subst l1 y1 z1
  obtain ⟨hv1, N1q, e1⟩ := hQ1
  have N2 := Fr.app N0 N1q
  rw [show (own_vB_f14) = (0 : Int32) from by first | rfl | decide | simp [own_vB_f14]] at hv1
  subst hv1
  obtain ⟨v3, _, ⟨T3, L3, k3, n3⟩, -, X3, ⟨Lc3, hQ3, l3, y3, z3⟩, st3⟩ := Jvm.LawKit.callS X1 hx (y := (⟨"com/example/nanshe/nanshe/engine/Request", "breakIn", "(Ljava/lang/String;)I"⟩ : MethodName)) hown (mvT hZ (hw _ (List.mem_of_getElem? (i := 65) rfl))) (mvT hZ (hw _ (List.mem_of_getElem? (i := 66) rfl))) (mvT hZ (hw _ (List.mem_of_getElem? (i := 2) rfl))) (mvT hZ (hw _ (List.mem_of_getElem? (i := 67) rfl))) (by decide) (backOf (W := 0) (own_vB_rm15 l Z a0 hw [] a1 w_value_a1 k_w_value_a1 y0 y1 w_COMPACT_STRINGS w_SIOOBE_FORMATTER h0 n0 Z0 O0 V_w_value_a1 gd0 gd1 hcs hrf S_COMPACT_STRINGS F_value_a1 F_coder_a1 E_a1 S_SIOOBE_FORMATTER) hZ (hw _ (List.mem_of_getElem? (i := 67) rfl)) (hw _ (List.mem_of_getElem? (i := 2) rfl)) (by decide) (by decide)) (g := (mkF m 8 #[.val (.ref a1)] [(.ref a1)])) rfl (by rw [hml]; rfl) (argsL := [(.ref a1)]) (rest := []) (lenOf own_pd284 rfl) rfl (by show 2 * 0 + _ ≤ _; exact Nat.le_of_eq rfl) (hb hby own_d13_8) (fun _ _ => ⟨rfl, e1, (by decide : 0 + 0 ≤ _), (by decide : 0 + 0 ≤ _)⟩)
  dsimp only [Pt.U, Pt.locs, Pt.cells, Pt.slots] at X3 l3 y3 z3 st3 hQ3
  subst l3 y3 z3
  obtain ⟨hv3, N3q, e3⟩ := hQ3
  have N4 := Fr.app N2 N3q
  rw [show (own_vB_f15) = (-1 : Int32) from by first | rfl | decide | simp [own_vB_f15]] at hv3
  subst hv3
  obtain ⟨fs, hr, hrun, hended, hW, hsame⟩ := X3.leave (hlocks := hlk) (v := some (.int (1 : Int32))) (fun h => by rw [Bd.returns] at h; cases h)
  refine ⟨_, _, pre0 _ ?_, hrun, hended, _, _, rfl, ?_, ⟨_, rfl⟩, hW, hsame.mono (by decide) (by decide)⟩
  · show Steps p.tables e below (s₁.setTop (mkF m 0 #[.val (.ref a1)] [])) _
    refine XS.aloadN X0.here hx rfl (hb hby own_d13_0) rfl rfl ?_
    show Steps p.tables e below (s₁.setTop (mkF m 1 #[.val (.ref a1)] [(.ref a1)])) _
    refine st1.trans ?_
    show Steps p.tables e below (T1.setTop (mkF m 4 #[.val (.ref a1)] [(.int (0 : Int32))])) _
    refine XS.ifNo X1.here hx rfl (hb hby own_d13_4) rfl ((if0 _ _).trans (teq (by decide : (0 : Int32) = (0 : Int32))).2) ?_
    show Steps p.tables e below (T1.setTop (mkF m 7 #[.val (.ref a1)] [])) _
    refine XS.aloadN X1.here hx rfl (hb hby own_d13_7) rfl rfl ?_
    show Steps p.tables e below (T1.setTop (mkF m 8 #[.val (.ref a1)] [(.ref a1)])) _
    refine st3 _ ?_
    show Steps p.tables e below (T3.setTop (mkF m 11 #[.val (.ref a1)] [(.int (-1 : Int32))])) _
    refine XS.ifNo X3.here hx rfl (hb hby own_d13_11) rfl ((if0 _ _).trans (tlt (by decide : (-1 : Int32) < (0 : Int32))).2.1) ?_
    show Steps p.tables e below (T3.setTop (mkF m 14 #[.val (.ref a1)] [])) _
    refine XS.iconst X3.here hx rfl (hb hby own_d13_14) ?_
    show Steps p.tables e below (T3.setTop (mkF m 15 #[.val (.ref a1)] [(.int (1 : Int32))])) _
    refine XS.goto X3.here hx rfl (pc0 := 15) (pc' := 19) rfl (hb hby own_d13_15) (by decide) (by decide) ?_
    show Steps p.tables e below (T3.setTop (mkF m 19 #[.val (.ref a1)] [(.int (1 : Int32))])) _
    exact retN X3 hx (t := .boolean) Bd.returns (by simp) (hb hby own_d13_19) hr
  · show own_vB_Q13 Z a1 w_value_a1 k_w_value_a1 y0 y1 w_COMPACT_STRINGS w_SIOOBE_FORMATTER h0 n0 _ T3.heap _
    rw [e3]
    exact ⟨(by rw [own_vB_f13]), N4, rfl⟩
-- body 12
theorem own_d12_0 : decode jdk_31_method_11_code 0 = .ok (.aload_n 0, 1) := by decide +kernel
theorem own_d12_1 : decode jdk_31_method_11_code 1 = .ok (.ifnonnull 12, 3) := by decide +kernel
theorem own_d12_13 : decode jdk_31_method_11_code 13 = .ok (.aload_n 0, 1) := by decide +kernel
theorem own_d12_14 : decode jdk_31_method_11_code 14 = .ok (.areturn, 1) := by decide +kernel
theorem own_ef12 (m : MethodId) (x0 : Addr) (x1 : Addr) : entryFrame m #[(.ref x0), (.ref x1)] 2 = mkF m 0 #[.val (.ref x0), .val (.ref x1)] [] := by first | (simp [entryFrame, mkF, argsToLocals, Value.category]; done) | rfl
def own_f12 (a1 : Addr) : Addr := a1
def own_Q12 (Z : State) (a1 : Addr) (a2 : Addr) (h0 : Heap) (n0 : Nat) (v : Option Value) (h : Heap) (L : List Loc) : Prop := v = some (.ref (own_f12 a1)) ∧ Fr n0 L ∧ h = h0
set_option maxRecDepth 65536 in
set_option maxHeartbeats 40000000 in
theorem own_rm12 (l : Launch) (Z : State) (a0 : Array Value) (hw : ∀ d ∈ tables_1, d.before a0 Z = true) (ws : List Jvm.Cond) (a1 : Addr) (a2 : Addr) (h0 : Heap) (n0 : Nat) (Z0 : n0 ≤ h0.size) :
    MetFree l (⟨"java/util/Objects", "requireNonNull", "(Ljava/lang/Object;Ljava/lang/String;)Ljava/lang/Object;"⟩ : MethodName) (head1 (Jvm.Cond.code (⟨"java/util/Objects", "requireNonNull", "(Ljava/lang/Object;Ljava/lang/String;)Ljava/lang/Object;"⟩ : MethodName) jdk_31_method_11_code 2 (some (.object "java/lang/Object")) :: ws) ({ frames := 0, cells := 0, slots := 0, locals := 0 } : Room)) (fun a U => a = #[(.ref a1), (.ref a2)] ∧ Z.Warmed39 U.vm ∧ U.heap = h0) (fun _ _ _ _ _ => True) (fun _ U o U' => ∃ v L, o = .returned v ∧ own_Q12 Z a1 a2 h0 n0 v U'.heap L ∧ FrameEnd U o U' L ({ frames := 0, cells := 0, slots := 0, locals := 0 } : Room).cells ({ frames := 0, cells := 0, slots := 0, locals := 0 } : Room).slots) := by
  refine MetFree.of_bodySF (plainFor_of_name own_pn294) hisR ?_
  intro p e s m args below meth c s₁ Bd hml0 hP hK
  obtain ⟨rfl, hZ, hh⟩ := hP
  have hx := Bd.exec
  have hby := Bd.bytes
  have hml : c.maxLocals = 2 := hml0
  have hown : s.vm.findClass "java/util/Objects" = some m.cls := findClass_of_methodNamed Bd.named
  have hnm := (name_of_methodNamed Bd.named Bd.method).1
  have X0 : Stand p l e ({ frames := 0, cells := 0, slots := 0, locals := 0 } : Room) s m #[(.ref a1), (.ref a2)] below meth c s₁ [] 0 0 := Stand.of_body Bd
  have hS0 : s.Since s.vm 0 := (State.WarmedH.refl s).since 0
  have hk0 : 0 ≤ h0.size := Nat.zero_le _
  have hlk := Bd.notSynchronized
  have e0 : s₁.heap = h0 := by rw [← hh, Bd.state]; rfl
  have N0 := Fr.nil n0
  have pre0 : ∀ t, Steps p.tables e below (s₁.setTop (mkF m 0 #[.val (.ref a1), .val (.ref a2)] [])) t → Steps p.tables e below (s₁.setTop (entryFrame m #[(.ref a1), (.ref a2)] 2)) t := fun t k => castTop (own_ef12 m a1 a2) k
  obtain ⟨fs, hr, hrun, hended, hW, hsame⟩ := X0.leave (hlocks := hlk) (v := some (.ref a1)) (fun h => by rw [Bd.returns] at h; cases h)
  refine ⟨_, _, pre0 _ ?_, hrun, hended, _, _, rfl, ?_, ⟨_, rfl⟩, hW, hsame.mono (by decide) (by decide)⟩
  · show Steps p.tables e below (s₁.setTop (mkF m 0 #[.val (.ref a1), .val (.ref a2)] [])) _
    refine XS.aloadN X0.here hx rfl (hb hby own_d12_0) rfl rfl ?_
    show Steps p.tables e below (s₁.setTop (mkF m 1 #[.val (.ref a1), .val (.ref a2)] [(.ref a1)])) _
    refine XS.ifnonnullYes X0.here hx rfl (pc0 := 1) (pc' := 13) rfl (hb hby own_d12_1) rfl (by decide) (by decide) ?_
    show Steps p.tables e below (s₁.setTop (mkF m 13 #[.val (.ref a1), .val (.ref a2)] [])) _
    refine XS.aloadN X0.here hx rfl (hb hby own_d12_13) rfl rfl ?_
    show Steps p.tables e below (s₁.setTop (mkF m 14 #[.val (.ref a1), .val (.ref a2)] [(.ref a1)])) _
    jvm_step X0.here [X0.here.top, hx, (hb hby own_d12_14), X0.method', Bd.returns, Value.isRef, FieldType.isReference]
    first | (intro acts; rw [hr _ acts rfl rfl rfl]) | rw [hr _ _ rfl rfl rfl]
    exact Steps.refl _
  · show own_Q12 Z a1 a2 h0 n0 _ s₁.heap _
    rw [e0]
    exact ⟨(by rw [own_f12]), N0, rfl⟩
-- body 11, variant A
theorem own_d11_0 : decode prog_7_method_11_code 0 = .ok (.aload_n 0, 1) := by decide +kernel
theorem own_d11_1 : decode prog_7_method_11_code 1 = .ok (.aload_n 1, 1) := by decide +kernel
theorem own_d11_2 : decode prog_7_method_11_code 2 = .ok (.invokestatic 74, 3) := by decide +kernel
theorem own_d11_5 : decode prog_7_method_11_code 5 = .ok (.pop, 1) := by decide +kernel
theorem own_d11_6 : decode prog_7_method_11_code 6 = .ok (.aload_n 0, 1) := by decide +kernel
theorem own_d11_7 : decode prog_7_method_11_code 7 = .ok (.invokestatic 78, 3) := by decide +kernel
theorem own_d11_10 : decode prog_7_method_11_code 10 = .ok (.ifCond .ne 21, 3) := by decide +kernel
theorem own_d11_31 : decode prog_7_method_11_code 31 = .ok (.aload_n 0, 1) := by decide +kernel
theorem own_d11_32 : decode prog_7_method_11_code 32 = .ok (.aload_n 1, 1) := by decide +kernel
theorem own_d11_33 : decode prog_7_method_11_code 33 = .ok (.invokestatic 93, 3) := by decide +kernel
theorem own_d11_36 : decode prog_7_method_11_code 36 = .ok (.areturn, 1) := by decide +kernel
theorem own_vA_ef11 (m : MethodId) (x0 : Addr) (x1 : Addr) : entryFrame m #[(.ref x0), (.ref x1)] 2 = mkF m 0 #[.val (.ref x0), .val (.ref x1)] [] := by first | (simp [entryFrame, mkF, argsToLocals, Value.category]; done) | rfl
def own_vA_f11 (a1 : Addr) : Addr := a1
def own_vA_Q11 (Z : State) (a1 : Addr) (a2 : Addr) (w_value_a1 : Addr) (k_w_value_a1 : ClassId) (y0 : Int32) (w_COMPACT_STRINGS : Int32) (w_SIOOBE_FORMATTER : Value) (h0 : Heap) (n0 : Nat) (v : Option Value) (h : Heap) (L : List Loc) : Prop := v = some (.ref (own_vA_f11 a1)) ∧ Fr n0 L ∧ h = h0
set_option maxRecDepth 65536 in
set_option maxHeartbeats 40000000 in
theorem own_vA_rm11 (l : Launch) (Z : State) (a0 : Array Value) (hw : ∀ d ∈ tables_1, d.before a0 Z = true) (ws : List Jvm.Cond) (a1 : Addr) (a2 : Addr) (w_value_a1 : Addr) (k_w_value_a1 : ClassId) (y0 : Int32) (w_COMPACT_STRINGS : Int32) (w_SIOOBE_FORMATTER : Value) (h0 : Heap) (n0 : Nat) (Z0 : n0 ≤ h0.size) (O0 : Old Z n0 h0) (V_w_value_a1 : Arv Z h0 w_value_a1 k_w_value_a1 .byte (1 : Int32) [(.int y0)] (.int (0 : Int32))) (gd0 : own_good y0) (hcs : ¬ w_COMPACT_STRINGS = (0 : Int32)) (hrf : w_SIOOBE_FORMATTER.isRef = true) (S_COMPACT_STRINGS : Sta Z Z.heap "java/lang/String" "COMPACT_STRINGS" "Z" (.int w_COMPACT_STRINGS)) (S_SIOOBE_FORMATTER : Sta Z Z.heap "jdk/internal/util/Preconditions" "SIOOBE_FORMATTER" "Ljava/util/function/BiFunction;" w_SIOOBE_FORMATTER) (F_value_a1 : Fld Z h0 a1 "java/lang/String" "value" "[B" (.ref w_value_a1)) (F_coder_a1 : Fld Z h0 a1 "java/lang/String" "coder" "B" (.int (0 : Int32))) (E_a1 : Exa Z h0 a1 "java/lang/String") :
    MetFree l (⟨"com/example/nanshe/nanshe/engine/Request", "checked", "(Ljava/lang/String;Ljava/lang/String;)Ljava/lang/String;"⟩ : MethodName) (head1 (Jvm.Cond.code (⟨"com/example/nanshe/nanshe/engine/Request", "checked", "(Ljava/lang/String;Ljava/lang/String;)Ljava/lang/String;"⟩ : MethodName) prog_7_method_11_code 2 (some (.object "java/lang/String")) :: ws) ({ frames := 6, cells := 0, slots := 0, locals := 79 } : Room)) (fun a U => a = #[(.ref a1), (.ref a2)] ∧ Z.Warmed39 U.vm ∧ U.heap = h0) (fun _ _ _ _ _ => True) (fun _ U o U' => ∃ v L, o = .returned v ∧ own_vA_Q11 Z a1 a2 w_value_a1 k_w_value_a1 y0 w_COMPACT_STRINGS w_SIOOBE_FORMATTER h0 n0 v U'.heap L ∧ FrameEnd U o U' L ({ frames := 6, cells := 0, slots := 0, locals := 79 } : Room).cells ({ frames := 6, cells := 0, slots := 0, locals := 79 } : Room).slots) := by
  refine MetFree.of_bodySF (plainFor_of_name own_pn227) hisR ?_
  intro p e s m args below meth c s₁ Bd hml0 hP hK
  obtain ⟨rfl, hZ, hh⟩ := hP
  have hx := Bd.exec
  have hby := Bd.bytes
  have hml : c.maxLocals = 2 := hml0
  have hown : s.vm.findClass "com/example/nanshe/nanshe/engine/Request" = some m.cls := findClass_of_methodNamed Bd.named
  have hnm := (name_of_methodNamed Bd.named Bd.method).1
  have X0 : Stand p l e ({ frames := 6, cells := 0, slots := 0, locals := 79 } : Room) s m #[(.ref a1), (.ref a2)] below meth c s₁ [] 0 0 := Stand.of_body Bd
  have hS0 : s.Since s.vm 0 := (State.WarmedH.refl s).since 0
  have hk0 : 0 ≤ h0.size := Nat.zero_le _
  have hlk := Bd.notSynchronized
  have e0 : s₁.heap = h0 := by rw [← hh, Bd.state]; rfl
  have N0 := Fr.nil n0
  have pre0 : ∀ t, Steps p.tables e below (s₁.setTop (mkF m 0 #[.val (.ref a1), .val (.ref a2)] [])) t → Steps p.tables e below (s₁.setTop (entryFrame m #[(.ref a1), (.ref a2)] 2)) t := fun t k => castTop (own_vA_ef11 m a1 a2) k
  obtain ⟨v1, _, ⟨T1, L1, k1, n1⟩, -, X1, ⟨Lc1, hQ1, l1, y1, z1⟩, st1⟩ := Jvm.LawKit.callS X0 hx (y := (⟨"java/util/Objects", "requireNonNull", "(Ljava/lang/Object;Ljava/lang/String;)Ljava/lang/Object;"⟩ : MethodName)) hown (mvT hZ (hw _ (List.mem_of_getElem? (i := 53) rfl))) (mvT hZ (hw _ (List.mem_of_getElem? (i := 54) rfl))) (mvT hZ (hw _ (List.mem_of_getElem? (i := 55) rfl))) (mvT hZ (hw _ (List.mem_of_getElem? (i := 56) rfl))) (by decide) (backOf (W := 0) (own_rm12 l Z a0 hw [] a1 a2 h0 n0 Z0) hZ (hw _ (List.mem_of_getElem? (i := 56) rfl)) (hw _ (List.mem_of_getElem? (i := 55) rfl)) (by decide) (by decide)) (g := (mkF m 2 #[.val (.ref a1), .val (.ref a2)] [(.ref a2), (.ref a1)])) rfl (by rw [hml]; rfl) (argsL := [(.ref a1), (.ref a2)]) (rest := []) (lenOf own_pd299 rfl) rfl (by show 2 * 0 + _ ≤ _; exact Nat.le_of_eq rfl) (hb hby own_d11_2) (fun _ _ => ⟨rfl, e0, (by decide : 0 + 0 ≤ _), (by decide : 0 + 0 ≤ _)⟩)
  dsimp only [Pt.U, Pt.locs, Pt.cells, Pt.slots] at X1 l1 y1 z1 st1 hQ1
  subst l1 y1 z1
  obtain ⟨hv1, N1q, e1⟩ := hQ1
  have N2 := Fr.app N0 N1q
  rw [show (own_f12 a1) = a1 from by first | rfl | decide | simp [own_f12]] at hv1
  subst hv1
  obtain ⟨v3, _, ⟨T3, L3, k3, n3⟩, -, X3, ⟨Lc3, hQ3, l3, y3, z3⟩, st3⟩ := Jvm.LawKit.callS X1 hx (y := (⟨"com/example/nanshe/nanshe/engine/Request", "isName", "(Ljava/lang/String;)Z"⟩ : MethodName)) hown (mvT hZ (hw _ (List.mem_of_getElem? (i := 57) rfl))) (mvT hZ (hw _ (List.mem_of_getElem? (i := 58) rfl))) (mvT hZ (hw _ (List.mem_of_getElem? (i := 2) rfl))) (mvT hZ (hw _ (List.mem_of_getElem? (i := 59) rfl))) (by decide) (backOf (W := 0) (own_vA_rm13 l Z a0 hw [] a1 w_value_a1 k_w_value_a1 y0 w_COMPACT_STRINGS w_SIOOBE_FORMATTER h0 n0 Z0 O0 V_w_value_a1 gd0 hcs hrf F_value_a1 E_a1 S_COMPACT_STRINGS S_SIOOBE_FORMATTER F_coder_a1) hZ (hw _ (List.mem_of_getElem? (i := 59) rfl)) (hw _ (List.mem_of_getElem? (i := 2) rfl)) (by decide) (by decide)) (g := (mkF m 7 #[.val (.ref a1), .val (.ref a2)] [(.ref a1)])) rfl (by rw [hml]; rfl) (argsL := [(.ref a1)]) (rest := []) (lenOf own_pd300 rfl) rfl (by show 2 * 0 + _ ≤ _; exact Nat.le_of_eq rfl) (hb hby own_d11_7) (fun _ _ => ⟨rfl, e1, (by decide : 0 + 0 ≤ _), (by decide : 0 + 0 ≤ _)⟩)
  dsimp only [Pt.U, Pt.locs, Pt.cells, Pt.slots] at X3 l3 y3 z3 st3 hQ3
  subst l3 y3 z3
  obtain ⟨hv3, N3q, e3⟩ := hQ3
  have N4 := Fr.app N2 N3q
  rw [show (own_vA_f13) = (1 : Int32) from by first | rfl | decide | simp [own_vA_f13]] at hv3
  subst hv3
  obtain ⟨v5, _, ⟨T5, L5, k5, n5⟩, -, X5, ⟨Lc5, hQ5, l5, y5, z5⟩, st5⟩ := Jvm.LawKit.callS X3 hx (y := (⟨"com/example/nanshe/nanshe/engine/Request", "unicode", "(Ljava/lang/String;Ljava/lang/String;)Ljava/lang/String;"⟩ : MethodName)) hown (mvT hZ (hw _ (List.mem_of_getElem? (i := 100) rfl))) (mvT hZ (hw _ (List.mem_of_getElem? (i := 101) rfl))) (mvT hZ (hw _ (List.mem_of_getElem? (i := 2) rfl))) (mvT hZ (hw _ (List.mem_of_getElem? (i := 102) rfl))) (by decide) (backOf (W := 0) (own_vA_rm23 l Z a0 hw [] a1 a2 w_value_a1 k_w_value_a1 y0 w_COMPACT_STRINGS w_SIOOBE_FORMATTER h0 n0 Z0 O0 V_w_value_a1 gd0 hcs hrf S_COMPACT_STRINGS F_value_a1 F_coder_a1 E_a1 S_SIOOBE_FORMATTER) hZ (hw _ (List.mem_of_getElem? (i := 102) rfl)) (hw _ (List.mem_of_getElem? (i := 2) rfl)) (by decide) (by decide)) (g := (mkF m 33 #[.val (.ref a1), .val (.ref a2)] [(.ref a2), (.ref a1)])) rfl (by rw [hml]; rfl) (argsL := [(.ref a1), (.ref a2)]) (rest := []) (lenOf own_pd301 rfl) rfl (by show 2 * 0 + _ ≤ _; exact Nat.le_of_eq rfl) (hb hby own_d11_33) (fun _ _ => ⟨rfl, e3, (by decide : 0 + 0 ≤ _), (by decide : 0 + 0 ≤ _)⟩)
  dsimp only [Pt.U, Pt.locs, Pt.cells, Pt.slots] at X5 l5 y5 z5 st5 hQ5
  subst l5 y5 z5
  obtain ⟨hv5, N5q, e5⟩ := hQ5
  have N6 := Fr.app N4 N5q
  rw [show (own_vA_f23 a1) = a1 from by first | rfl | decide | simp [own_vA_f23]] at hv5
  subst hv5
  obtain ⟨fs, hr, hrun, hended, hW, hsame⟩ := X5.leave (hlocks := hlk) (v := some (.ref a1)) (fun h => by rw [Bd.returns] at h; cases h)
  refine ⟨_, _, pre0 _ ?_, hrun, hended, _, _, rfl, ?_, ⟨_, rfl⟩, hW, hsame.mono (by decide) (by decide)⟩
  · show Steps p.tables e below (s₁.setTop (mkF m 0 #[.val (.ref a1), .val (.ref a2)] [])) _
    refine XS.aloadN X0.here hx rfl (hb hby own_d11_0) rfl rfl ?_
    show Steps p.tables e below (s₁.setTop (mkF m 1 #[.val (.ref a1), .val (.ref a2)] [(.ref a1)])) _
    refine XS.aloadN X0.here hx rfl (hb hby own_d11_1) rfl rfl ?_
    show Steps p.tables e below (s₁.setTop (mkF m 2 #[.val (.ref a1), .val (.ref a2)] [(.ref a2), (.ref a1)])) _
    refine st1 _ ?_
    show Steps p.tables e below (T1.setTop (mkF m 5 #[.val (.ref a1), .val (.ref a2)] [(.ref a1)])) _
    refine XS.pop X1.here hx rfl (hb hby own_d11_5) rfl rfl ?_
    show Steps p.tables e below (T1.setTop (mkF m 6 #[.val (.ref a1), .val (.ref a2)] [])) _
    refine XS.aloadN X1.here hx rfl (hb hby own_d11_6) rfl rfl ?_
    show Steps p.tables e below (T1.setTop (mkF m 7 #[.val (.ref a1), .val (.ref a2)] [(.ref a1)])) _
    refine st3 _ ?_
    show Steps p.tables e below (T3.setTop (mkF m 10 #[.val (.ref a1), .val (.ref a2)] [(.int (1 : Int32))])) _
    refine XS.ifYes X3.here hx rfl (pc0 := 10) (pc' := 31) rfl (hb hby own_d11_10) rfl ((if0 _ _).trans (feq (by decide : ¬ ((1 : Int32) = (0 : Int32)))).2) (by decide) (by decide) ?_
    show Steps p.tables e below (T3.setTop (mkF m 31 #[.val (.ref a1), .val (.ref a2)] [])) _
    refine XS.aloadN X3.here hx rfl (hb hby own_d11_31) rfl rfl ?_
    show Steps p.tables e below (T3.setTop (mkF m 32 #[.val (.ref a1), .val (.ref a2)] [(.ref a1)])) _
    refine XS.aloadN X3.here hx rfl (hb hby own_d11_32) rfl rfl ?_
    show Steps p.tables e below (T3.setTop (mkF m 33 #[.val (.ref a1), .val (.ref a2)] [(.ref a2), (.ref a1)])) _
    refine st5 _ ?_
    show Steps p.tables e below (T5.setTop (mkF m 36 #[.val (.ref a1), .val (.ref a2)] [(.ref a1)])) _
    jvm_step X5.here [X5.here.top, hx, (hb hby own_d11_36), X5.method', Bd.returns, Value.isRef, FieldType.isReference]
    first | (intro acts; rw [hr _ acts rfl rfl rfl]) | rw [hr _ _ rfl rfl rfl]
    exact Steps.refl _
  · show own_vA_Q11 Z a1 a2 w_value_a1 k_w_value_a1 y0 w_COMPACT_STRINGS w_SIOOBE_FORMATTER h0 n0 _ T5.heap _
    rw [e5]
    exact ⟨(by rw [own_vA_f11]), N6, rfl⟩
-- body 11, variant B
theorem own_vB_ef11 (m : MethodId) (x0 : Addr) (x1 : Addr) : entryFrame m #[(.ref x0), (.ref x1)] 2 = mkF m 0 #[.val (.ref x0), .val (.ref x1)] [] := by first | (simp [entryFrame, mkF, argsToLocals, Value.category]; done) | rfl
def own_vB_f11 (a1 : Addr) : Addr := a1
def own_vB_Q11 (Z : State) (a1 : Addr) (a2 : Addr) (w_value_a1 : Addr) (k_w_value_a1 : ClassId) (y0 : Int32) (y1 : Int32) (w_COMPACT_STRINGS : Int32) (w_SIOOBE_FORMATTER : Value) (h0 : Heap) (n0 : Nat) (v : Option Value) (h : Heap) (L : List Loc) : Prop := v = some (.ref (own_vB_f11 a1)) ∧ Fr n0 L ∧ h = h0
set_option maxRecDepth 65536 in
set_option maxHeartbeats 40000000 in
theorem own_vB_rm11 (l : Launch) (Z : State) (a0 : Array Value) (hw : ∀ d ∈ tables_1, d.before a0 Z = true) (ws : List Jvm.Cond) (a1 : Addr) (a2 : Addr) (w_value_a1 : Addr) (k_w_value_a1 : ClassId) (y0 : Int32) (y1 : Int32) (w_COMPACT_STRINGS : Int32) (w_SIOOBE_FORMATTER : Value) (h0 : Heap) (n0 : Nat) (Z0 : n0 ≤ h0.size) (O0 : Old Z n0 h0) (V_w_value_a1 : Arv Z h0 w_value_a1 k_w_value_a1 .byte (2 : Int32) [(.int y0), (.int y1)] (.int (0 : Int32))) (gd0 : own_good y0) (gd1 : own_good y1) (hcs : ¬ w_COMPACT_STRINGS = (0 : Int32)) (hrf : w_SIOOBE_FORMATTER.isRef = true) (S_COMPACT_STRINGS : Sta Z Z.heap "java/lang/String" "COMPACT_STRINGS" "Z" (.int w_COMPACT_STRINGS)) (S_SIOOBE_FORMATTER : Sta Z Z.heap "jdk/internal/util/Preconditions" "SIOOBE_FORMATTER" "Ljava/util/function/BiFunction;" w_SIOOBE_FORMATTER) (F_value_a1 : Fld Z h0 a1 "java/lang/String" "value" "[B" (.ref w_value_a1)) (F_coder_a1 : Fld Z h0 a1 "java/lang/String" "coder" "B" (.int (0 : Int32))) (E_a1 : Exa Z h0 a1 "java/lang/String") :
    MetFree l (⟨"com/example/nanshe/nanshe/engine/Request", "checked", "(Ljava/lang/String;Ljava/lang/String;)Ljava/lang/String;"⟩ : MethodName) (head1 (Jvm.Cond.code (⟨"com/example/nanshe/nanshe/engine/Request", "checked", "(Ljava/lang/String;Ljava/lang/String;)Ljava/lang/String;"⟩ : MethodName) prog_7_method_11_code 2 (some (.object "java/lang/String")) :: ws) ({ frames := 6, cells := 0, slots := 0, locals := 79 } : Room)) (fun a U => a = #[(.ref a1), (.ref a2)] ∧ Z.Warmed39 U.vm ∧ U.heap = h0) (fun _ _ _ _ _ => True) (fun _ U o U' => ∃ v L, o = .returned v ∧ own_vB_Q11 Z a1 a2 w_value_a1 k_w_value_a1 y0 y1 w_COMPACT_STRINGS w_SIOOBE_FORMATTER h0 n0 v U'.heap L ∧ FrameEnd U o U' L ({ frames := 6, cells := 0, slots := 0, locals := 79 } : Room).cells ({ frames := 6, cells := 0, slots := 0, locals := 79 } : Room).slots) := by
  refine MetFree.of_bodySF (plainFor_of_name own_pn227) hisR ?_
  intro p e s m args below meth c s₁ Bd hml0 hP hK
  obtain ⟨rfl, hZ, hh⟩ := hP
  have hx := Bd.exec
  have hby := Bd.bytes
  have hml : c.maxLocals = 2 := hml0
  have hown : s.vm.findClass "com/example/nanshe/nanshe/engine/Request" = some m.cls := findClass_of_methodNamed Bd.named
  have hnm := (name_of_methodNamed Bd.named Bd.method).1
  have X0 : Stand p l e ({ frames := 6, cells := 0, slots := 0, locals := 79 } : Room) s m #[(.ref a1), (.ref a2)] below meth c s₁ [] 0 0 := Stand.of_body Bd
  have hS0 : s.Since s.vm 0 := (State.WarmedH.refl s).since 0
  have hk0 : 0 ≤ h0.size := Nat.zero_le _
  have hlk := Bd.notSynchronized
  have e0 : s₁.heap = h0 := by rw [← hh, Bd.state]; rfl
  have N0 := Fr.nil n0
  have pre0 : ∀ t, Steps p.tables e below (s₁.setTop (mkF m 0 #[.val (.ref a1), .val (.ref a2)] [])) t → Steps p.tables e below (s₁.setTop (entryFrame m #[(.ref a1), (.ref a2)] 2)) t := fun t k => castTop (own_vB_ef11 m a1 a2) k
  obtain ⟨v1, _, ⟨T1, L1, k1, n1⟩, -, X1, ⟨Lc1, hQ1, l1, y1, z1⟩, st1⟩ := Jvm.LawKit.callS X0 hx (y := (⟨"java/util/Objects", "requireNonNull", "(Ljava/lang/Object;Ljava/lang/String;)Ljava/lang/Object;"⟩ : MethodName)) hown (mvT hZ (hw _ (List.mem_of_getElem? (i := 53) rfl))) (mvT hZ (hw _ (List.mem_of_getElem? (i := 54) rfl))) (mvT hZ (hw _ (List.mem_of_getElem? (i := 55) rfl))) (mvT hZ (hw _ (List.mem_of_getElem? (i := 56) rfl))) (by decide) (backOf (W := 0) (own_rm12 l Z a0 hw [] a1 a2 h0 n0 Z0) hZ (hw _ (List.mem_of_getElem? (i := 56) rfl)) (hw _ (List.mem_of_getElem? (i := 55) rfl)) (by decide) (by decide)) (g := (mkF m 2 #[.val (.ref a1), .val (.ref a2)] [(.ref a2), (.ref a1)])) rfl (by rw [hml]; rfl) (argsL := [(.ref a1), (.ref a2)]) (rest := []) (lenOf own_pd299 rfl) rfl (by show 2 * 0 + _ ≤ _; exact Nat.le_of_eq rfl) (hb hby own_d11_2) (fun _ _ => ⟨rfl, e0, (by decide : 0 + 0 ≤ _), (by decide : 0 + 0 ≤ _)⟩)
  dsimp only [Pt.U, Pt.locs, Pt.cells, Pt.slots] at X1 l1 y1 z1 st1 hQ1
  subst l1 y1 z1
  obtain ⟨hv1, N1q, e1⟩ := hQ1
  have N2 := Fr.app N0 N1q
  rw [show (own_f12 a1) = a1 from by first | rfl | decide | simp [own_f12]] at hv1
  subst hv1
  obtain ⟨v3, _, ⟨T3, L3, k3, n3⟩, -, X3, ⟨Lc3, hQ3, l3, y3, z3⟩, st3⟩ := Jvm.LawKit.callS X1 hx (y := (⟨"com/example/nanshe/nanshe/engine/Request", "isName", "(Ljava/lang/String;)Z"⟩ : MethodName)) hown (mvT hZ (hw _ (List.mem_of_getElem? (i := 57) rfl))) (mvT hZ (hw _ (List.mem_of_getElem? (i := 58) rfl))) (mvT hZ (hw _ (List.mem_of_getElem? (i := 2) rfl))) (mvT hZ (hw _ (List.mem_of_getElem? (i := 59) rfl))) (by decide) (backOf (W := 0) (own_vB_rm13 l Z a0 hw [] a1 w_value_a1 k_w_value_a1 y0 y1 w_COMPACT_STRINGS w_SIOOBE_FORMATTER h0 n0 Z0 O0 V_w_value_a1 gd0 gd1 hcs hrf F_value_a1 E_a1 S_COMPACT_STRINGS S_SIOOBE_FORMATTER F_coder_a1) hZ (hw _ (List.mem_of_getElem? (i := 59) rfl)) (hw _ (List.mem_of_getElem? (i := 2) rfl)) (by decide) (by decide)) (g := (mkF m 7 #[.val (.ref a1), .val (.ref a2)] [(.ref a1)])) rfl (by rw [hml]; rfl) (argsL := [(.ref a1)]) (rest := []) (lenOf own_pd300 rfl) rfl (by show 2 * 0 + _ ≤ _; exact Nat.le_of_eq rfl) (hb hby own_d11_7) (fun _ _ => ⟨rfl, e1, (by decide : 0 + 0 ≤ _), (by decide : 0 + 0 ≤ _)⟩)
  dsimp only [Pt.U, Pt.locs, Pt.cells, Pt.slots] at X3 l3 y3 z3 st3 hQ3
  subst l3 y3 z3
  obtain ⟨hv3, N3q, e3⟩ := hQ3
  have N4 := Fr.app N2 N3q
  rw [show (own_vB_f13) = (1 : Int32) from by first | rfl | decide | simp [own_vB_f13]] at hv3
  subst hv3
  obtain ⟨v5, _, ⟨T5, L5, k5, n5⟩, -, X5, ⟨Lc5, hQ5, l5, y5, z5⟩, st5⟩ := Jvm.LawKit.callS X3 hx (y := (⟨"com/example/nanshe/nanshe/engine/Request", "unicode", "(Ljava/lang/String;Ljava/lang/String;)Ljava/lang/String;"⟩ : MethodName)) hown (mvT hZ (hw _ (List.mem_of_getElem? (i := 100) rfl))) (mvT hZ (hw _ (List.mem_of_getElem? (i := 101) rfl))) (mvT hZ (hw _ (List.mem_of_getElem? (i := 2) rfl))) (mvT hZ (hw _ (List.mem_of_getElem? (i := 102) rfl))) (by decide) (backOf (W := 0) (own_vB_rm23 l Z a0 hw [] a1 a2 w_value_a1 k_w_value_a1 y0 y1 w_COMPACT_STRINGS w_SIOOBE_FORMATTER h0 n0 Z0 O0 V_w_value_a1 gd0 gd1 hcs hrf S_COMPACT_STRINGS F_value_a1 F_coder_a1 E_a1 S_SIOOBE_FORMATTER) hZ (hw _ (List.mem_of_getElem? (i := 102) rfl)) (hw _ (List.mem_of_getElem? (i := 2) rfl)) (by decide) (by decide)) (g := (mkF m 33 #[.val (.ref a1), .val (.ref a2)] [(.ref a2), (.ref a1)])) rfl (by rw [hml]; rfl) (argsL := [(.ref a1), (.ref a2)]) (rest := []) (lenOf own_pd301 rfl) rfl (by show 2 * 0 + _ ≤ _; exact Nat.le_of_eq rfl) (hb hby own_d11_33) (fun _ _ => ⟨rfl, e3, (by decide : 0 + 0 ≤ _), (by decide : 0 + 0 ≤ _)⟩)
  dsimp only [Pt.U, Pt.locs, Pt.cells, Pt.slots] at X5 l5 y5 z5 st5 hQ5
  subst l5 y5 z5
  obtain ⟨hv5, N5q, e5⟩ := hQ5
  have N6 := Fr.app N4 N5q
  rw [show (own_vB_f23 a1) = a1 from by first | rfl | decide | simp [own_vB_f23]] at hv5
  subst hv5
  obtain ⟨fs, hr, hrun, hended, hW, hsame⟩ := X5.leave (hlocks := hlk) (v := some (.ref a1)) (fun h => by rw [Bd.returns] at h; cases h)
  refine ⟨_, _, pre0 _ ?_, hrun, hended, _, _, rfl, ?_, ⟨_, rfl⟩, hW, hsame.mono (by decide) (by decide)⟩
  · show Steps p.tables e below (s₁.setTop (mkF m 0 #[.val (.ref a1), .val (.ref a2)] [])) _
    refine XS.aloadN X0.here hx rfl (hb hby own_d11_0) rfl rfl ?_
    show Steps p.tables e below (s₁.setTop (mkF m 1 #[.val (.ref a1), .val (.ref a2)] [(.ref a1)])) _
    refine XS.aloadN X0.here hx rfl (hb hby own_d11_1) rfl rfl ?_
    show Steps p.tables e below (s₁.setTop (mkF m 2 #[.val (.ref a1), .val (.ref a2)] [(.ref a2), (.ref a1)])) _
    refine st1 _ ?_
    show Steps p.tables e below (T1.setTop (mkF m 5 #[.val (.ref a1), .val (.ref a2)] [(.ref a1)])) _
    refine XS.pop X1.here hx rfl (hb hby own_d11_5) rfl rfl ?_
    show Steps p.tables e below (T1.setTop (mkF m 6 #[.val (.ref a1), .val (.ref a2)] [])) _
    refine XS.aloadN X1.here hx rfl (hb hby own_d11_6) rfl rfl ?_
    show Steps p.tables e below (T1.setTop (mkF m 7 #[.val (.ref a1), .val (.ref a2)] [(.ref a1)])) _
    refine st3 _ ?_
    show Steps p.tables e below (T3.setTop (mkF m 10 #[.val (.ref a1), .val (.ref a2)] [(.int (1 : Int32))])) _
    refine XS.ifYes X3.here hx rfl (pc0 := 10) (pc' := 31) rfl (hb hby own_d11_10) rfl ((if0 _ _).trans (feq (by decide : ¬ ((1 : Int32) = (0 : Int32)))).2) (by decide) (by decide) ?_
    show Steps p.tables e below (T3.setTop (mkF m 31 #[.val (.ref a1), .val (.ref a2)] [])) _
    refine XS.aloadN X3.here hx rfl (hb hby own_d11_31) rfl rfl ?_
    show Steps p.tables e below (T3.setTop (mkF m 32 #[.val (.ref a1), .val (.ref a2)] [(.ref a1)])) _
    refine XS.aloadN X3.here hx rfl (hb hby own_d11_32) rfl rfl ?_
    show Steps p.tables e below (T3.setTop (mkF m 33 #[.val (.ref a1), .val (.ref a2)] [(.ref a2), (.ref a1)])) _
    refine st5 _ ?_
    show Steps p.tables e below (T5.setTop (mkF m 36 #[.val (.ref a1), .val (.ref a2)] [(.ref a1)])) _
    jvm_step X5.here [X5.here.top, hx, (hb hby own_d11_36), X5.method', Bd.returns, Value.isRef, FieldType.isReference]
    first | (intro acts; rw [hr _ acts rfl rfl rfl]) | rw [hr _ _ rfl rfl rfl]
    exact Steps.refl _
  · show own_vB_Q11 Z a1 a2 w_value_a1 k_w_value_a1 y0 y1 w_COMPACT_STRINGS w_SIOOBE_FORMATTER h0 n0 _ T5.heap _
    rw [e5]
    exact ⟨(by rw [own_vB_f11]), N6, rfl⟩
def own_c_Q11 (Z : State) (a1 : Addr) (a2 : Addr) (w_value_a1 : Addr) (k_w_value_a1 : ClassId) (N_w_value_a1 : Int32) (B_w_value_a1 : List Value) (w_COMPACT_STRINGS : Int32) (w_SIOOBE_FORMATTER : Value) (h0 : Heap) (n0 : Nat) (v : Option Value) (h : Heap) (L : List Loc) : Prop := v = some (.ref (own_vB_f11 a1)) ∧ Fr n0 L ∧ h = h0
set_option maxRecDepth 65536 in
set_option maxHeartbeats 40000000 in
theorem own_c_rm11 (l : Launch) (Z : State) (a0 : Array Value) (hw : ∀ d ∈ tables_1, d.before a0 Z = true) (ws : List Jvm.Cond) (a1 : Addr) (a2 : Addr) (w_value_a1 : Addr) (k_w_value_a1 : ClassId) (N_w_value_a1 : Int32) (B_w_value_a1 : List Value) (w_COMPACT_STRINGS : Int32) (w_SIOOBE_FORMATTER : Value) (h0 : Heap) (n0 : Nat) (Z0 : n0 ≤ h0.size) (O0 : Old Z n0 h0) (V_w_value_a1 : Arv Z h0 w_value_a1 k_w_value_a1 .byte N_w_value_a1 B_w_value_a1 (.int (0 : Int32))) (hcs : ¬ w_COMPACT_STRINGS = (0 : Int32)) (hrf : w_SIOOBE_FORMATTER.isRef = true) (S_COMPACT_STRINGS : Sta Z Z.heap "java/lang/String" "COMPACT_STRINGS" "Z" (.int w_COMPACT_STRINGS)) (S_SIOOBE_FORMATTER : Sta Z Z.heap "jdk/internal/util/Preconditions" "SIOOBE_FORMATTER" "Ljava/util/function/BiFunction;" w_SIOOBE_FORMATTER) (F_value_a1 : Fld Z h0 a1 "java/lang/String" "value" "[B" (.ref w_value_a1)) (F_coder_a1 : Fld Z h0 a1 "java/lang/String" "coder" "B" (.int (0 : Int32))) (E_a1 : Exa Z h0 a1 "java/lang/String") (hok : own_okS N_w_value_a1 B_w_value_a1) :
    MetFree l (⟨"com/example/nanshe/nanshe/engine/Request", "checked", "(Ljava/lang/String;Ljava/lang/String;)Ljava/lang/String;"⟩ : MethodName) (head1 (Jvm.Cond.code (⟨"com/example/nanshe/nanshe/engine/Request", "checked", "(Ljava/lang/String;Ljava/lang/String;)Ljava/lang/String;"⟩ : MethodName) prog_7_method_11_code 2 (some (.object "java/lang/String")) :: ws) ({ frames := 6, cells := 0, slots := 0, locals := 79 } : Room)) (fun a U => a = #[(.ref a1), (.ref a2)] ∧ Z.Warmed39 U.vm ∧ U.heap = h0) (fun _ _ _ _ _ => True) (fun _ U o U' => ∃ v L, o = .returned v ∧ own_c_Q11 Z a1 a2 w_value_a1 k_w_value_a1 N_w_value_a1 B_w_value_a1 w_COMPACT_STRINGS w_SIOOBE_FORMATTER h0 n0 v U'.heap L ∧ FrameEnd U o U' L ({ frames := 6, cells := 0, slots := 0, locals := 79 } : Room).cells ({ frames := 6, cells := 0, slots := 0, locals := 79 } : Room).slots) := by
  rcases hok with ⟨y0, rfl, rfl, gd0y⟩ | ⟨y0, y1, rfl, rfl, gd0y, gd1y⟩
  · exact own_vA_rm11 l Z a0 hw ws a1 a2 w_value_a1 k_w_value_a1 y0 w_COMPACT_STRINGS w_SIOOBE_FORMATTER h0 n0 Z0 O0 V_w_value_a1 gd0y hcs hrf S_COMPACT_STRINGS S_SIOOBE_FORMATTER F_value_a1 F_coder_a1 E_a1
  · exact own_vB_rm11 l Z a0 hw ws a1 a2 w_value_a1 k_w_value_a1 y0 y1 w_COMPACT_STRINGS w_SIOOBE_FORMATTER h0 n0 Z0 O0 V_w_value_a1 gd0y gd1y hcs hrf S_COMPACT_STRINGS S_SIOOBE_FORMATTER F_value_a1 F_coder_a1 E_a1
-- body 10
theorem own_d10_0 : decode prog_7_method_1_code 0 = .ok (.aload_n 0, 1) := by decide +kernel
theorem own_d10_1 : decode prog_7_method_1_code 1 = .ok (.invokespecial 1, 3) := by decide +kernel
theorem own_d10_4 : decode prog_7_method_1_code 4 = .ok (.aload_n 0, 1) := by decide +kernel
theorem own_d10_5 : decode prog_7_method_1_code 5 = .ok (.aload_n 1, 1) := by decide +kernel
theorem own_d10_6 : decode prog_7_method_1_code 6 = .ok (.ldc 7, 2) := by decide +kernel
theorem own_d10_8 : decode prog_7_method_1_code 8 = .ok (.invokestatic 9, 3) := by decide +kernel
theorem own_d10_11 : decode prog_7_method_1_code 11 = .ok (.putfield 15, 3) := by decide +kernel
theorem own_d10_14 : decode prog_7_method_1_code 14 = .ok (.aload_n 0, 1) := by decide +kernel
theorem own_d10_15 : decode prog_7_method_1_code 15 = .ok (.aload_n 2, 1) := by decide +kernel
theorem own_d10_16 : decode prog_7_method_1_code 16 = .ok (.ldc 18, 2) := by decide +kernel
theorem own_d10_18 : decode prog_7_method_1_code 18 = .ok (.invokestatic 9, 3) := by decide +kernel
theorem own_d10_21 : decode prog_7_method_1_code 21 = .ok (.putfield 20, 3) := by decide +kernel
theorem own_d10_24 : decode prog_7_method_1_code 24 = .ok (.aload_n 0, 1) := by decide +kernel
theorem own_d10_25 : decode prog_7_method_1_code 25 = .ok (.aload_n 3, 1) := by decide +kernel
theorem own_d10_26 : decode prog_7_method_1_code 26 = .ok (.ldc 22, 2) := by decide +kernel
theorem own_d10_28 : decode prog_7_method_1_code 28 = .ok (.invokestatic 9, 3) := by decide +kernel
theorem own_d10_31 : decode prog_7_method_1_code 31 = .ok (.putfield 24, 3) := by decide +kernel
theorem own_d10_34 : decode prog_7_method_1_code 34 = .ok (.return_, 1) := by decide +kernel
theorem own_ef10 (m : MethodId) (x0 : Addr) (x1 : Addr) (x2 : Addr) (x3 : Addr) : entryFrame m #[(.ref x0), (.ref x1), (.ref x2), (.ref x3)] 4 = mkF m 0 #[.val (.ref x0), .val (.ref x1), .val (.ref x2), .val (.ref x3)] [] := by first | (simp [entryFrame, mkF, argsToLocals, Value.category]; done) | rfl
def own_Q10 (Z : State) (a1 : Addr) (a2 : Addr) (a3 : Addr) (a4 : Addr) (w_value_a2 : Addr) (k_w_value_a2 : ClassId) (N_w_value_a2 : Int32) (B_w_value_a2 : List Value) (w_value_a3 : Addr) (k_w_value_a3 : ClassId) (N_w_value_a3 : Int32) (B_w_value_a3 : List Value) (w_value_a4 : Addr) (k_w_value_a4 : ClassId) (N_w_value_a4 : Int32) (B_w_value_a4 : List Value) (w_COMPACT_STRINGS : Int32) (w_SIOOBE_FORMATTER : Value) (u_subject_a1 : Value) (u_action_a1 : Value) (u_object_a1 : Value) (h0 : Heap) (n0 : Nat) (v : Option Value) (h : Heap) (L : List Loc) : Prop := v = none ∧ Fr n0 L ∧ Keep h0 h [a1] ∧ Exa Z h a1 "com/example/nanshe/nanshe/engine/Request" ∧ Fld Z h a1 "com/example/nanshe/nanshe/engine/Request" "subject" "Ljava/lang/String;" (.ref a2) ∧ Fld Z h a1 "com/example/nanshe/nanshe/engine/Request" "action" "Ljava/lang/String;" (.ref a3) ∧ Fld Z h a1 "com/example/nanshe/nanshe/engine/Request" "object" "Ljava/lang/String;" (.ref a4)
set_option maxRecDepth 65536 in
set_option maxHeartbeats 40000000 in
theorem own_rm10 (l : Launch) (Z : State) (a0 : Array Value) (hw : ∀ d ∈ tables_1, d.before a0 Z = true) (ws : List Jvm.Cond) (a1 : Addr) (a2 : Addr) (a3 : Addr) (a4 : Addr) (w_value_a2 : Addr) (k_w_value_a2 : ClassId) (N_w_value_a2 : Int32) (B_w_value_a2 : List Value) (w_value_a3 : Addr) (k_w_value_a3 : ClassId) (N_w_value_a3 : Int32) (B_w_value_a3 : List Value) (w_value_a4 : Addr) (k_w_value_a4 : ClassId) (N_w_value_a4 : Int32) (B_w_value_a4 : List Value) (w_COMPACT_STRINGS : Int32) (w_SIOOBE_FORMATTER : Value) (u_subject_a1 : Value) (u_action_a1 : Value) (u_object_a1 : Value) (h0 : Heap) (n0 : Nat) (Z0 : n0 ≤ h0.size) (O0 : Old Z n0 h0) (V_w_value_a2 : Arv Z h0 w_value_a2 k_w_value_a2 .byte N_w_value_a2 B_w_value_a2 (.int (0 : Int32))) (V_w_value_a3 : Arv Z h0 w_value_a3 k_w_value_a3 .byte N_w_value_a3 B_w_value_a3 (.int (0 : Int32))) (V_w_value_a4 : Arv Z h0 w_value_a4 k_w_value_a4 .byte N_w_value_a4 B_w_value_a4 (.int (0 : Int32))) (hok_a2 : own_okS N_w_value_a2 B_w_value_a2) (hok_a3 : own_okS N_w_value_a3 B_w_value_a3) (hok_a4 : own_okS N_w_value_a4 B_w_value_a4) (hcs : ¬ w_COMPACT_STRINGS = (0 : Int32)) (hrf : w_SIOOBE_FORMATTER.isRef = true) (S_COMPACT_STRINGS : Sta Z Z.heap "java/lang/String" "COMPACT_STRINGS" "Z" (.int w_COMPACT_STRINGS)) (S_SIOOBE_FORMATTER : Sta Z Z.heap "jdk/internal/util/Preconditions" "SIOOBE_FORMATTER" "Ljava/util/function/BiFunction;" w_SIOOBE_FORMATTER) (F_value_a2 : Fld Z h0 a2 "java/lang/String" "value" "[B" (.ref w_value_a2)) (F_coder_a2 : Fld Z h0 a2 "java/lang/String" "coder" "B" (.int (0 : Int32))) (E_a2 : Exa Z h0 a2 "java/lang/String") (E_a1 : Exa Z h0 a1 "com/example/nanshe/nanshe/engine/Request") (F_subject_a1 : Fld Z h0 a1 "com/example/nanshe/nanshe/engine/Request" "subject" "Ljava/lang/String;" u_subject_a1) (g_a1 : n0 ≤ a1) (F_action_a1 : Fld Z h0 a1 "com/example/nanshe/nanshe/engine/Request" "action" "Ljava/lang/String;" u_action_a1) (F_object_a1 : Fld Z h0 a1 "com/example/nanshe/nanshe/engine/Request" "object" "Ljava/lang/String;" u_object_a1) (ne_w_value_a2_a1 : w_value_a2 ≠ a1) (ne_w_value_a3_a1 : w_value_a3 ≠ a1) (ne_w_value_a4_a1 : w_value_a4 ≠ a1) (ne_a2_a1 : a2 ≠ a1) (F_value_a3 : Fld Z h0 a3 "java/lang/String" "value" "[B" (.ref w_value_a3)) (F_coder_a3 : Fld Z h0 a3 "java/lang/String" "coder" "B" (.int (0 : Int32))) (E_a3 : Exa Z h0 a3 "java/lang/String") (ne_a3_a1 : a3 ≠ a1) (F_value_a4 : Fld Z h0 a4 "java/lang/String" "value" "[B" (.ref w_value_a4)) (F_coder_a4 : Fld Z h0 a4 "java/lang/String" "coder" "B" (.int (0 : Int32))) (E_a4 : Exa Z h0 a4 "java/lang/String") (ne_a4_a1 : a4 ≠ a1) :
    MetFree l (⟨"com/example/nanshe/nanshe/engine/Request", "<init>", "(Ljava/lang/String;Ljava/lang/String;Ljava/lang/String;)V"⟩ : MethodName) (head1 (Jvm.Cond.code (⟨"com/example/nanshe/nanshe/engine/Request", "<init>", "(Ljava/lang/String;Ljava/lang/String;Ljava/lang/String;)V"⟩ : MethodName) prog_7_method_1_code 4 none :: ws) ({ frames := 7, cells := 6, slots := 88, locals := 93 } : Room)) (fun a U => a = #[(.ref a1), (.ref a2), (.ref a3), (.ref a4)] ∧ Z.Warmed39 U.vm ∧ U.heap = h0) (fun _ _ _ _ _ => True) (fun _ U o U' => ∃ v L, o = .returned v ∧ own_Q10 Z a1 a2 a3 a4 w_value_a2 k_w_value_a2 N_w_value_a2 B_w_value_a2 w_value_a3 k_w_value_a3 N_w_value_a3 B_w_value_a3 w_value_a4 k_w_value_a4 N_w_value_a4 B_w_value_a4 w_COMPACT_STRINGS w_SIOOBE_FORMATTER u_subject_a1 u_action_a1 u_object_a1 h0 n0 v U'.heap L ∧ ReturnedEndW U o U' L ({ frames := 7, cells := 6, slots := 88, locals := 93 } : Room).cells ({ frames := 7, cells := 6, slots := 88, locals := 93 } : Room).slots) := by
  refine MetFree.of_bodySF (plainFor_of_name own_pn227) hisR ?_
  intro p e s m args below meth c s₁ Bd hml0 hP hK
  obtain ⟨rfl, hZ, hh⟩ := hP
  have hx := Bd.exec
  have hby := Bd.bytes
  have hml : c.maxLocals = 4 := hml0
  have hown : s.vm.findClass "com/example/nanshe/nanshe/engine/Request" = some m.cls := findClass_of_methodNamed Bd.named
  have hnm := (name_of_methodNamed Bd.named Bd.method).1
  have X0 : Stand p l e ({ frames := 7, cells := 6, slots := 88, locals := 93 } : Room) (s.setVm s.vm) m #[(.ref a1), (.ref a2), (.ref a3), (.ref a4)] below meth c s₁ [] 0 0 := Stand.of_body Bd
  have hS0 : s.Since s.vm 0 := (State.WarmedH.refl s).since 0
  have hk0 : 0 ≤ h0.size := Nat.zero_le _
  have hlk := Bd.notSynchronized
  have e0 : s₁.heap = h0 := by rw [← hh, Bd.state]; rfl
  have N0 := Fr.nil n0
  have pre0 : ∀ t, Steps p.tables e below (s₁.setTop (mkF m 0 #[.val (.ref a1), .val (.ref a2), .val (.ref a3), .val (.ref a4)] [])) t → Steps p.tables e below (s₁.setTop (entryFrame m #[(.ref a1), (.ref a2), (.ref a3), (.ref a4)] 4)) t := fun t k => castTop (own_ef10 m a1 a2 a3 a4) k
  obtain ⟨T1, X1, e1, st1⟩ := initO X0 hx hZ hown (hw _ (List.mem_of_getElem? (i := 46) rfl)) (hw _ (List.mem_of_getElem? (i := 25) rfl)) (hw _ (List.mem_of_getElem? (i := 26) rfl)) e0 (g := (mkF m 1 #[.val (.ref a1), .val (.ref a2), .val (.ref a3), .val (.ref a4)] [(.ref a1)])) rfl (by rw [hml]; rfl) rfl (hb hby own_d10_1) (by decide) (W := 0) (by show 2 * 0 + _ ≤ _; exact Nat.le_of_eq rfl) (by decide)
  obtain ⟨la2, T2, h2, kk2, X2, e2, E2, hS2, hk2, hZ2, hown2, st2⟩ := ldcS X1 hx hZ hown (hw _ (List.mem_of_getElem? (i := 47) rfl)) (own_wS hw) e1 hS0 hk0 (g := (mkF m 6 #[.val (.ref a1), .val (.ref a2), .val (.ref a3), .val (.ref a4)] [(.ref a2), (.ref a1)])) rfl (hb hby own_d10_6) (n := 28) (by first | decide | simp | decide +kernel) (by decide) (by decide) (by decide)
  have f3 := V_w_value_a2.ext E2
  have f4 := V_w_value_a3.ext E2
  have f5 := V_w_value_a4.ext E2
  have f6 := F_value_a2.ext E2
  have f7 := F_coder_a2.ext E2
  have f8 := E_a2.ext E2
  have f9 := E_a1.ext E2
  have f10 := F_subject_a1.ext E2
  have f11 := F_action_a1.ext E2
  have f12 := F_object_a1.ext E2
  have f13 := F_value_a3.ext E2
  have f14 := F_coder_a3.ext E2
  have f15 := E_a3.ext E2
  have f16 := F_value_a4.ext E2
  have f17 := F_coder_a4.ext E2
  have f18 := E_a4.ext E2
  have O19 := O0.ext E2
  have Z20 := Nat.le_trans Z0 E2.1
  have K21 : Keep h0 h2 [a1] := (Keep.refl h0 _).ext E2
  obtain ⟨v22, _, ⟨T22, L22, k22, n22⟩, -, X22, ⟨Lc22, hQ22, l22, y22, z22⟩, st22⟩ := Jvm.LawKit.callS X2 hx (y := (⟨"com/example/nanshe/nanshe/engine/Request", "checked", "(Ljava/lang/String;Ljava/lang/String;)Ljava/lang/String;"⟩ : MethodName)) hown2 (mvT hZ2 (hw _ (List.mem_of_getElem? (i := 50) rfl))) (mvT hZ2 (hw _ (List.mem_of_getElem? (i := 51) rfl))) (mvT hZ2 (hw _ (List.mem_of_getElem? (i := 2) rfl))) (mvT hZ2 (hw _ (List.mem_of_getElem? (i := 52) rfl))) (by decide) (backOf (W := 1) (own_c_rm11 l Z a0 hw [] a2 la2 w_value_a2 k_w_value_a2 N_w_value_a2 B_w_value_a2 w_COMPACT_STRINGS w_SIOOBE_FORMATTER h2 n0 Z20 O19 f3 hcs hrf S_COMPACT_STRINGS S_SIOOBE_FORMATTER f6 f7 f8 hok_a2) hZ2 (hw _ (List.mem_of_getElem? (i := 52) rfl)) (hw _ (List.mem_of_getElem? (i := 2) rfl)) (by decide) (by decide)) (g := (mkF m 8 #[.val (.ref a1), .val (.ref a2), .val (.ref a3), .val (.ref a4)] [(.ref la2), (.ref a2), (.ref a1)])) rfl (by rw [hml]; rfl) (argsL := [(.ref a2), (.ref la2)]) (rest := [(.ref a1)]) (lenOf own_pd301 rfl) rfl (by show 2 * 0 + _ ≤ _; exact Nat.le_of_eq rfl) (hb hby own_d10_8) (fun _ _ => ⟨rfl, e2, (by decide : 2 + 0 ≤ _), (by decide : 32 + 0 ≤ _)⟩)
  dsimp only [Pt.U, Pt.locs, Pt.cells, Pt.slots] at X22 l22 y22 z22 st22 hQ22
  subst l22 y22 z22
  obtain ⟨hv22, N22q, e22⟩ := hQ22
  have N23 := Fr.app N0 N22q
  rw [show (own_vB_f11 a2) = a2 from by first | rfl | decide | simp [own_vB_f11]] at hv22
  subst hv22
  obtain ⟨T24, h24, X24, e24, W24, st24⟩ := putF X22 hx hZ2 hown2 (host := "") (Or.inl (hw _ (List.mem_of_getElem? (i := 112) rfl))) Via.refl e22 f10 f9 (Or.inr ⟨(hw _ (List.mem_of_getElem? (i := 113) rfl)), rfl, hnm⟩) (hw _ (List.mem_of_getElem? (i := 1) rfl)) (ty := (.object "java/lang/String")) (by decide) rfl rfl (g := (mkF m 11 #[.val (.ref a1), .val (.ref a2), .val (.ref a3), .val (.ref a4)] [(.ref a2), (.ref a1)])) rfl rfl (hb hby own_d10_11)
  have N25 := Fr.snoc X24 N23 g_a1
  have O26 := O19.wr W24 g_a1
  have Z27 := Nat.le_trans Z20 (Keep.of_wr W24).1
  have hk28 := Nat.le_trans hk2 (Keep.of_wr W24).1
  have K29 : Keep h0 h24 [a1] := K21.wr W24 (Or.inl (List.mem_of_getElem? (i := 0) rfl))
  have f30 := f3.other W24 ne_w_value_a2_a1
  have f31 := f4.other W24 ne_w_value_a3_a1
  have f32 := f5.other W24 ne_w_value_a4_a1
  have f33 := f6.other W24 (Or.inl ne_a2_a1)
  have f34 := f7.other W24 (Or.inl ne_a2_a1)
  have f35 := f8.wr W24
  have f36 := f9.wr W24
  have f37 := f10.same W24
  have f38 := f11.other W24 (Or.inr (slot_ne (Or.inr (hw _ (List.mem_of_getElem? (i := 116) rfl))) (Or.inr (hw _ (List.mem_of_getElem? (i := 113) rfl))) (by decide) (t := (.object "java/lang/String")) (t' := (.object "java/lang/String")) (by decide) (by decide)))
  have f39 := f12.other W24 (Or.inr (slot_ne (Or.inr (hw _ (List.mem_of_getElem? (i := 119) rfl))) (Or.inr (hw _ (List.mem_of_getElem? (i := 113) rfl))) (by decide) (t := (.object "java/lang/String")) (t' := (.object "java/lang/String")) (by decide) (by decide)))
  have f40 := f13.other W24 (Or.inl ne_a3_a1)
  have f41 := f14.other W24 (Or.inl ne_a3_a1)
  have f42 := f15.wr W24
  have f43 := f16.other W24 (Or.inl ne_a4_a1)
  have f44 := f17.other W24 (Or.inl ne_a4_a1)
  have f45 := f18.wr W24
  obtain ⟨la46, T46, h46, kk46, X46, e46, E46, hS46, hk46, hZ46, hown46, st46⟩ := ldcS X24 hx hZ2 hown2 (hw _ (List.mem_of_getElem? (i := 114) rfl)) (own_wS hw) e24 hS2 hk28 (g := (mkF m 16 #[.val (.ref a1), .val (.ref a2), .val (.ref a3), .val (.ref a4)] [(.ref a3), (.ref a1)])) rfl (hb hby own_d10_16) (n := 24) (by first | decide | simp | decide +kernel) (by decide) (by decide) (by decide)
  have f47 := f30.ext E46
  have f48 := f31.ext E46
  have f49 := f32.ext E46
  have f50 := f33.ext E46
  have f51 := f34.ext E46
  have f52 := f35.ext E46
  have f53 := f36.ext E46
  have f54 := f37.ext E46
  have f55 := f38.ext E46
  have f56 := f39.ext E46
  have f57 := f40.ext E46
  have f58 := f41.ext E46
  have f59 := f42.ext E46
  have f60 := f43.ext E46
  have f61 := f44.ext E46
  have f62 := f45.ext E46
  have O63 := O26.ext E46
  have Z64 := Nat.le_trans Z27 E46.1
  have K65 : Keep h0 h46 [a1] := K29.ext E46
  obtain ⟨v66, _, ⟨T66, L66, k66, n66⟩, -, X66, ⟨Lc66, hQ66, l66, y66, z66⟩, st66⟩ := Jvm.LawKit.callS X46 hx (y := (⟨"com/example/nanshe/nanshe/engine/Request", "checked", "(Ljava/lang/String;Ljava/lang/String;)Ljava/lang/String;"⟩ : MethodName)) hown46 (mvT hZ46 (hw _ (List.mem_of_getElem? (i := 50) rfl))) (mvT hZ46 (hw _ (List.mem_of_getElem? (i := 51) rfl))) (mvT hZ46 (hw _ (List.mem_of_getElem? (i := 2) rfl))) (mvT hZ46 (hw _ (List.mem_of_getElem? (i := 52) rfl))) (by decide) (backOf (W := 1) (own_c_rm11 l Z a0 hw [] a3 la46 w_value_a3 k_w_value_a3 N_w_value_a3 B_w_value_a3 w_COMPACT_STRINGS w_SIOOBE_FORMATTER h46 n0 Z64 O63 f48 hcs hrf S_COMPACT_STRINGS S_SIOOBE_FORMATTER f57 f58 f59 hok_a3) hZ46 (hw _ (List.mem_of_getElem? (i := 52) rfl)) (hw _ (List.mem_of_getElem? (i := 2) rfl)) (by decide) (by decide)) (g := (mkF m 18 #[.val (.ref a1), .val (.ref a2), .val (.ref a3), .val (.ref a4)] [(.ref la46), (.ref a3), (.ref a1)])) rfl (by rw [hml]; rfl) (argsL := [(.ref a3), (.ref la46)]) (rest := [(.ref a1)]) (lenOf own_pd301 rfl) rfl (by show 2 * 0 + _ ≤ _; exact Nat.le_of_eq rfl) (hb hby own_d10_18) (fun _ _ => ⟨rfl, e46, (by decide : 4 + 0 ≤ _), (by decide : 60 + 0 ≤ _)⟩)
  dsimp only [Pt.U, Pt.locs, Pt.cells, Pt.slots] at X66 l66 y66 z66 st66 hQ66
  subst l66 y66 z66
  obtain ⟨hv66, N66q, e66⟩ := hQ66
  have N67 := Fr.app N25 N66q
  rw [show (own_vB_f11 a3) = a3 from by first | rfl | decide | simp [own_vB_f11]] at hv66
  subst hv66
  obtain ⟨T68, h68, X68, e68, W68, st68⟩ := putF X66 hx hZ46 hown46 (host := "") (Or.inl (hw _ (List.mem_of_getElem? (i := 115) rfl))) Via.refl e66 f55 f53 (Or.inr ⟨(hw _ (List.mem_of_getElem? (i := 116) rfl)), rfl, hnm⟩) (hw _ (List.mem_of_getElem? (i := 1) rfl)) (ty := (.object "java/lang/String")) (by decide) rfl rfl (g := (mkF m 21 #[.val (.ref a1), .val (.ref a2), .val (.ref a3), .val (.ref a4)] [(.ref a3), (.ref a1)])) rfl rfl (hb hby own_d10_21)
  have N69 := Fr.snoc X68 N67 g_a1
  have O70 := O63.wr W68 g_a1
  have Z71 := Nat.le_trans Z64 (Keep.of_wr W68).1
  have hk72 := Nat.le_trans hk46 (Keep.of_wr W68).1
  have K73 : Keep h0 h68 [a1] := K65.wr W68 (Or.inl (List.mem_of_getElem? (i := 0) rfl))
  have f74 := f47.other W68 ne_w_value_a2_a1
  have f75 := f48.other W68 ne_w_value_a3_a1
  have f76 := f49.other W68 ne_w_value_a4_a1
  have f77 := f50.other W68 (Or.inl ne_a2_a1)
  have f78 := f51.other W68 (Or.inl ne_a2_a1)
  have f79 := f52.wr W68
  have f80 := f53.wr W68
  have f81 := f54.other W68 (Or.inr (slot_ne (Or.inr (hw _ (List.mem_of_getElem? (i := 113) rfl))) (Or.inr (hw _ (List.mem_of_getElem? (i := 116) rfl))) (by decide) (t := (.object "java/lang/String")) (t' := (.object "java/lang/String")) (by decide) (by decide)))
  have f82 := f55.same W68
  have f83 := f56.other W68 (Or.inr (slot_ne (Or.inr (hw _ (List.mem_of_getElem? (i := 119) rfl))) (Or.inr (hw _ (List.mem_of_getElem? (i := 116) rfl))) (by decide) (t := (.object "java/lang/String")) (t' := (.object "java/lang/String")) (by decide) (by decide)))
  have f84 := f57.other W68 (Or.inl ne_a3_a1)
  have f85 := f58.other W68 (Or.inl ne_a3_a1)
  have f86 := f59.wr W68
  have f87 := f60.other W68 (Or.inl ne_a4_a1)
  have f88 := f61.other W68 (Or.inl ne_a4_a1)
  have f89 := f62.wr W68
  obtain ⟨la90, T90, h90, kk90, X90, e90, E90, hS90, hk90, hZ90, hown90, st90⟩ := ldcS X68 hx hZ46 hown46 (hw _ (List.mem_of_getElem? (i := 117) rfl)) (own_wS hw) e68 hS46 hk72 (g := (mkF m 26 #[.val (.ref a1), .val (.ref a2), .val (.ref a3), .val (.ref a4)] [(.ref a4), (.ref a1)])) rfl (hb hby own_d10_26) (n := 24) (by first | decide | simp | decide +kernel) (by decide) (by decide) (by decide)
  have f91 := f74.ext E90
  have f92 := f75.ext E90
  have f93 := f76.ext E90
  have f94 := f77.ext E90
  have f95 := f78.ext E90
  have f96 := f79.ext E90
  have f97 := f80.ext E90
  have f98 := f81.ext E90
  have f99 := f82.ext E90
  have f100 := f83.ext E90
  have f101 := f84.ext E90
  have f102 := f85.ext E90
  have f103 := f86.ext E90
  have f104 := f87.ext E90
  have f105 := f88.ext E90
  have f106 := f89.ext E90
  have O107 := O70.ext E90
  have Z108 := Nat.le_trans Z71 E90.1
  have K109 : Keep h0 h90 [a1] := K73.ext E90
  obtain ⟨v110, _, ⟨T110, L110, k110, n110⟩, -, X110, ⟨Lc110, hQ110, l110, y110, z110⟩, st110⟩ := Jvm.LawKit.callS X90 hx (y := (⟨"com/example/nanshe/nanshe/engine/Request", "checked", "(Ljava/lang/String;Ljava/lang/String;)Ljava/lang/String;"⟩ : MethodName)) hown90 (mvT hZ90 (hw _ (List.mem_of_getElem? (i := 50) rfl))) (mvT hZ90 (hw _ (List.mem_of_getElem? (i := 51) rfl))) (mvT hZ90 (hw _ (List.mem_of_getElem? (i := 2) rfl))) (mvT hZ90 (hw _ (List.mem_of_getElem? (i := 52) rfl))) (by decide) (backOf (W := 1) (own_c_rm11 l Z a0 hw [] a4 la90 w_value_a4 k_w_value_a4 N_w_value_a4 B_w_value_a4 w_COMPACT_STRINGS w_SIOOBE_FORMATTER h90 n0 Z108 O107 f93 hcs hrf S_COMPACT_STRINGS S_SIOOBE_FORMATTER f104 f105 f106 hok_a4) hZ90 (hw _ (List.mem_of_getElem? (i := 52) rfl)) (hw _ (List.mem_of_getElem? (i := 2) rfl)) (by decide) (by decide)) (g := (mkF m 28 #[.val (.ref a1), .val (.ref a2), .val (.ref a3), .val (.ref a4)] [(.ref la90), (.ref a4), (.ref a1)])) rfl (by rw [hml]; rfl) (argsL := [(.ref a4), (.ref la90)]) (rest := [(.ref a1)]) (lenOf own_pd301 rfl) rfl (by show 2 * 0 + _ ≤ _; exact Nat.le_of_eq rfl) (hb hby own_d10_28) (fun _ _ => ⟨rfl, e90, (by decide : 6 + 0 ≤ _), (by decide : 88 + 0 ≤ _)⟩)
  dsimp only [Pt.U, Pt.locs, Pt.cells, Pt.slots] at X110 l110 y110 z110 st110 hQ110
  subst l110 y110 z110
  obtain ⟨hv110, N110q, e110⟩ := hQ110
  have N111 := Fr.app N69 N110q
  rw [show (own_vB_f11 a4) = a4 from by first | rfl | decide | simp [own_vB_f11]] at hv110
  subst hv110
  obtain ⟨T112, h112, X112, e112, W112, st112⟩ := putF X110 hx hZ90 hown90 (host := "") (Or.inl (hw _ (List.mem_of_getElem? (i := 118) rfl))) Via.refl e110 f100 f97 (Or.inr ⟨(hw _ (List.mem_of_getElem? (i := 119) rfl)), rfl, hnm⟩) (hw _ (List.mem_of_getElem? (i := 1) rfl)) (ty := (.object "java/lang/String")) (by decide) rfl rfl (g := (mkF m 31 #[.val (.ref a1), .val (.ref a2), .val (.ref a3), .val (.ref a4)] [(.ref a4), (.ref a1)])) rfl rfl (hb hby own_d10_31)
  have N113 := Fr.snoc X112 N111 g_a1
  have O114 := O107.wr W112 g_a1
  have Z115 := Nat.le_trans Z108 (Keep.of_wr W112).1
  have hk116 := Nat.le_trans hk90 (Keep.of_wr W112).1
  have K117 : Keep h0 h112 [a1] := K109.wr W112 (Or.inl (List.mem_of_getElem? (i := 0) rfl))
  have f118 := f91.other W112 ne_w_value_a2_a1
  have f119 := f92.other W112 ne_w_value_a3_a1
  have f120 := f93.other W112 ne_w_value_a4_a1
  have f121 := f94.other W112 (Or.inl ne_a2_a1)
  have f122 := f95.other W112 (Or.inl ne_a2_a1)
  have f123 := f96.wr W112
  have f124 := f97.wr W112
  have f125 := f98.other W112 (Or.inr (slot_ne (Or.inr (hw _ (List.mem_of_getElem? (i := 113) rfl))) (Or.inr (hw _ (List.mem_of_getElem? (i := 119) rfl))) (by decide) (t := (.object "java/lang/String")) (t' := (.object "java/lang/String")) (by decide) (by decide)))
  have f126 := f99.other W112 (Or.inr (slot_ne (Or.inr (hw _ (List.mem_of_getElem? (i := 116) rfl))) (Or.inr (hw _ (List.mem_of_getElem? (i := 119) rfl))) (by decide) (t := (.object "java/lang/String")) (t' := (.object "java/lang/String")) (by decide) (by decide)))
  have f127 := f100.same W112
  have f128 := f101.other W112 (Or.inl ne_a3_a1)
  have f129 := f102.other W112 (Or.inl ne_a3_a1)
  have f130 := f103.wr W112
  have f131 := f104.other W112 (Or.inl ne_a4_a1)
  have f132 := f105.other W112 (Or.inl ne_a4_a1)
  have f133 := f106.wr W112
  obtain ⟨fs, hr, hrun, hended, hE⟩ := Stand.leaveW (s := s) (vm₁ := T90.vm) X112 hS90 (by rw [e112]; exact hk116) (hlocks := hlk) (v := none) (fun _ => rfl)
  refine ⟨_, _, pre0 _ ?_, hrun, hended, _, _, rfl, ?_, hE.1, hE.2.1, hE.2.2.1, hE.2.2.2.mono (by decide) (by decide)⟩
  · show Steps p.tables e below (s₁.setTop (mkF m 0 #[.val (.ref a1), .val (.ref a2), .val (.ref a3), .val (.ref a4)] [])) _
    refine XS.aloadN X0.here hx rfl (hb hby own_d10_0) rfl rfl ?_
    show Steps p.tables e below (s₁.setTop (mkF m 1 #[.val (.ref a1), .val (.ref a2), .val (.ref a3), .val (.ref a4)] [(.ref a1)])) _
    refine st1 _ ?_
    show Steps p.tables e below (T1.setTop (mkF m 4 #[.val (.ref a1), .val (.ref a2), .val (.ref a3), .val (.ref a4)] [])) _
    refine XS.aloadN X1.here hx rfl (hb hby own_d10_4) rfl rfl ?_
    show Steps p.tables e below (T1.setTop (mkF m 5 #[.val (.ref a1), .val (.ref a2), .val (.ref a3), .val (.ref a4)] [(.ref a1)])) _
    refine XS.aloadN X1.here hx rfl (hb hby own_d10_5) rfl rfl ?_
    show Steps p.tables e below (T1.setTop (mkF m 6 #[.val (.ref a1), .val (.ref a2), .val (.ref a3), .val (.ref a4)] [(.ref a2), (.ref a1)])) _
    refine st2 _ ?_
    show Steps p.tables e below (T2.setTop (mkF m 8 #[.val (.ref a1), .val (.ref a2), .val (.ref a3), .val (.ref a4)] [(.ref la2), (.ref a2), (.ref a1)])) _
    refine st22 _ ?_
    show Steps p.tables e below (T22.setTop (mkF m 11 #[.val (.ref a1), .val (.ref a2), .val (.ref a3), .val (.ref a4)] [(.ref a2), (.ref a1)])) _
    refine st24 _ ?_
    show Steps p.tables e below (T24.setTop (mkF m 14 #[.val (.ref a1), .val (.ref a2), .val (.ref a3), .val (.ref a4)] [])) _
    refine XS.aloadN X24.here hx rfl (hb hby own_d10_14) rfl rfl ?_
    show Steps p.tables e below (T24.setTop (mkF m 15 #[.val (.ref a1), .val (.ref a2), .val (.ref a3), .val (.ref a4)] [(.ref a1)])) _
    refine XS.aloadN X24.here hx rfl (hb hby own_d10_15) rfl rfl ?_
    show Steps p.tables e below (T24.setTop (mkF m 16 #[.val (.ref a1), .val (.ref a2), .val (.ref a3), .val (.ref a4)] [(.ref a3), (.ref a1)])) _
    refine st46 _ ?_
    show Steps p.tables e below (T46.setTop (mkF m 18 #[.val (.ref a1), .val (.ref a2), .val (.ref a3), .val (.ref a4)] [(.ref la46), (.ref a3), (.ref a1)])) _
    refine st66 _ ?_
    show Steps p.tables e below (T66.setTop (mkF m 21 #[.val (.ref a1), .val (.ref a2), .val (.ref a3), .val (.ref a4)] [(.ref a3), (.ref a1)])) _
    refine st68 _ ?_
    show Steps p.tables e below (T68.setTop (mkF m 24 #[.val (.ref a1), .val (.ref a2), .val (.ref a3), .val (.ref a4)] [])) _
    refine XS.aloadN X68.here hx rfl (hb hby own_d10_24) rfl rfl ?_
    show Steps p.tables e below (T68.setTop (mkF m 25 #[.val (.ref a1), .val (.ref a2), .val (.ref a3), .val (.ref a4)] [(.ref a1)])) _
    refine XS.aloadN X68.here hx rfl (hb hby own_d10_25) rfl rfl ?_
    show Steps p.tables e below (T68.setTop (mkF m 26 #[.val (.ref a1), .val (.ref a2), .val (.ref a3), .val (.ref a4)] [(.ref a4), (.ref a1)])) _
    refine st90 _ ?_
    show Steps p.tables e below (T90.setTop (mkF m 28 #[.val (.ref a1), .val (.ref a2), .val (.ref a3), .val (.ref a4)] [(.ref la90), (.ref a4), (.ref a1)])) _
    refine st110 _ ?_
    show Steps p.tables e below (T110.setTop (mkF m 31 #[.val (.ref a1), .val (.ref a2), .val (.ref a3), .val (.ref a4)] [(.ref a4), (.ref a1)])) _
    refine st112 _ ?_
    show Steps p.tables e below (T112.setTop (mkF m 34 #[.val (.ref a1), .val (.ref a2), .val (.ref a3), .val (.ref a4)] [])) _
    exact X112.returnOut hx Bd.returns (hb hby own_d10_34) hr
  · show own_Q10 Z a1 a2 a3 a4 w_value_a2 k_w_value_a2 N_w_value_a2 B_w_value_a2 w_value_a3 k_w_value_a3 N_w_value_a3 B_w_value_a3 w_value_a4 k_w_value_a4 N_w_value_a4 B_w_value_a4 w_COMPACT_STRINGS w_SIOOBE_FORMATTER u_subject_a1 u_action_a1 u_object_a1 h0 n0 _ T112.heap _
    rw [e112]
    exact ⟨rfl, N113, K117, f124, f125, f126, f127⟩
-- body 29, variant AA
theorem own_d29_0 : decode jdk_43_method_13_code 0 = .ok (.aload_n 0, 1) := by decide +kernel
theorem own_d29_1 : decode jdk_43_method_13_code 1 = .ok (.arraylength, 1) := by decide +kernel
theorem own_d29_2 : decode jdk_43_method_13_code 2 = .ok (.aload_n 1, 1) := by decide +kernel
theorem own_d29_3 : decode jdk_43_method_13_code 3 = .ok (.arraylength, 1) := by decide +kernel
theorem own_d29_4 : decode jdk_43_method_13_code 4 = .ok (.if_icmp .ne 30, 3) := by decide +kernel
theorem own_d29_7 : decode jdk_43_method_13_code 7 = .ok (.iconst 0, 1) := by decide +kernel
theorem own_d29_8 : decode jdk_43_method_13_code 8 = .ok (.istore_n 2, 1) := by decide +kernel
theorem own_d29_9 : decode jdk_43_method_13_code 9 = .ok (.iload_n 2, 1) := by decide +kernel
theorem own_d29_10 : decode jdk_43_method_13_code 10 = .ok (.aload_n 0, 1) := by decide +kernel
theorem own_d29_11 : decode jdk_43_method_13_code 11 = .ok (.arraylength, 1) := by decide +kernel
theorem own_d29_12 : decode jdk_43_method_13_code 12 = .ok (.if_icmp .ge 20, 3) := by decide +kernel
theorem own_d29_15 : decode jdk_43_method_13_code 15 = .ok (.aload_n 0, 1) := by decide +kernel
theorem own_d29_16 : decode jdk_43_method_13_code 16 = .ok (.iload_n 2, 1) := by decide +kernel
theorem own_d29_17 : decode jdk_43_method_13_code 17 = .ok (.baload, 1) := by decide +kernel
theorem own_d29_18 : decode jdk_43_method_13_code 18 = .ok (.aload_n 1, 1) := by decide +kernel
theorem own_d29_19 : decode jdk_43_method_13_code 19 = .ok (.iload_n 2, 1) := by decide +kernel
theorem own_d29_20 : decode jdk_43_method_13_code 20 = .ok (.baload, 1) := by decide +kernel
theorem own_d29_21 : decode jdk_43_method_13_code 21 = .ok (.if_icmp .eq 5, 3) := by decide +kernel
theorem own_d29_24 : decode jdk_43_method_13_code 24 = .ok (.iconst 0, 1) := by decide +kernel
theorem own_d29_25 : decode jdk_43_method_13_code 25 = .ok (.ireturn, 1) := by decide +kernel
theorem own_d29_26 : decode jdk_43_method_13_code 26 = .ok (.iinc 2 1, 3) := by decide +kernel
theorem own_d29_29 : decode jdk_43_method_13_code 29 = .ok (.goto (-20), 3) := by decide +kernel
theorem own_d29_32 : decode jdk_43_method_13_code 32 = .ok (.iconst 1, 1) := by decide +kernel
theorem own_d29_33 : decode jdk_43_method_13_code 33 = .ok (.ireturn, 1) := by decide +kernel
theorem own_vAA_ef29 (m : MethodId) (x0 : Addr) (x1 : Addr) : entryFrame m #[(.ref x0), (.ref x1)] 3 = mkF m 0 #[.val (.ref x0), .val (.ref x1), .unset] [] := by first | (simp [entryFrame, mkF, argsToLocals, Value.category]; done) | rfl
def own_vAA_f29 (y0 : Int32) (u0 : Int32) : Int32 := if y0 = u0 then (1 : Int32)
    else (0 : Int32)
def own_vAA_Q29 (Z : State) (a1 : Addr) (a2 : Addr) (k_a1 : ClassId) (y0 : Int32) (k_a2 : ClassId) (u0 : Int32) (h0 : Heap) (n0 : Nat) (v : Option Value) (h : Heap) (L : List Loc) : Prop := v = some (.int (own_vAA_f29 y0 u0)) ∧ Fr n0 L ∧ h = h0
set_option maxRecDepth 65536 in
set_option maxHeartbeats 40000000 in
theorem own_vAA_rm29 (l : Launch) (Z : State) (a0 : Array Value) (hw : ∀ d ∈ tables_1, d.before a0 Z = true) (ws : List Jvm.Cond) (a1 : Addr) (a2 : Addr) (k_a1 : ClassId) (y0 : Int32) (k_a2 : ClassId) (u0 : Int32) (h0 : Heap) (n0 : Nat) (Z0 : n0 ≤ h0.size) (V_a1 : Arv Z h0 a1 k_a1 .byte (1 : Int32) [(.int y0)] (.int (0 : Int32))) (V_a2 : Arv Z h0 a2 k_a2 .byte (1 : Int32) [(.int u0)] (.int (0 : Int32))) :
    MetFree l (⟨"java/lang/StringLatin1", "equals", "([B[B)Z"⟩ : MethodName) (head1 (Jvm.Cond.code (⟨"java/lang/StringLatin1", "equals", "([B[B)Z"⟩ : MethodName) jdk_43_method_13_code 3 (some .boolean) :: ws) ({ frames := 0, cells := 0, slots := 0, locals := 0 } : Room)) (fun a U => a = #[(.ref a1), (.ref a2)] ∧ Z.Warmed39 U.vm ∧ U.heap = h0) (fun _ _ _ _ _ => True) (fun _ U o U' => ∃ v L, o = .returned v ∧ own_vAA_Q29 Z a1 a2 k_a1 y0 k_a2 u0 h0 n0 v U'.heap L ∧ FrameEnd U o U' L ({ frames := 0, cells := 0, slots := 0, locals := 0 } : Room).cells ({ frames := 0, cells := 0, slots := 0, locals := 0 } : Room).slots) := by
  refine MetFree.of_bodySF (plainFor_of_name own_pn193) hisR ?_
  intro p e s m args below meth c s₁ Bd hml0 hP hK
  obtain ⟨rfl, hZ, hh⟩ := hP
  have hx := Bd.exec
  have hby := Bd.bytes
  have hml : c.maxLocals = 3 := hml0
  have hown : s.vm.findClass "java/lang/StringLatin1" = some m.cls := findClass_of_methodNamed Bd.named
  have hnm := (name_of_methodNamed Bd.named Bd.method).1
  have X0 : Stand p l e ({ frames := 0, cells := 0, slots := 0, locals := 0 } : Room) s m #[(.ref a1), (.ref a2)] below meth c s₁ [] 0 0 := Stand.of_body Bd
  have hS0 : s.Since s.vm 0 := (State.WarmedH.refl s).since 0
  have hk0 : 0 ≤ h0.size := Nat.zero_le _
  have hlk := Bd.notSynchronized
  have e0 : s₁.heap = h0 := by rw [← hh, Bd.state]; rfl
  have N0 := Fr.nil n0
  have pre0 : ∀ t, Steps p.tables e below (s₁.setTop (mkF m 0 #[.val (.ref a1), .val (.ref a2), .unset] [])) t → Steps p.tables e below (s₁.setTop (entryFrame m #[(.ref a1), (.ref a2)] 3)) t := fun t k => castTop (own_vAA_ef29 m a1 a2) k
  obtain ⟨cl1, Ar1, qk1, Sz1, Nn1, Hs1, Gf1⟩ := id V_a1
  obtain ⟨cl2, Ar2, qk2, Sz2, Nn2, Hs2, Gf2⟩ := id V_a2
  obtain ⟨cl3, Ar3, qk3, Sz3, Nn3, Hs3, Gf3⟩ := id V_a1
  obtain ⟨cl4, Ar4, qk4, Sz4, Nn4, Hs4, Gf4⟩ := id V_a1
  have hin4 : ¬ ((0 : Int32) < 0 ∨ cl4.slots.size ≤ ((0 : Int32)).toNatClampNeg) := inb_of Sz4 ⟨by decide, by decide⟩
  have hat4 : cl4.slots[((0 : Int32)).toNatClampNeg]? = some (.int y0) := Has.at Hs4 hin4 rfl
  obtain ⟨cl5, Ar5, qk5, Sz5, Nn5, Hs5, Gf5⟩ := id V_a2
  have hin5 : ¬ ((0 : Int32) < 0 ∨ cl5.slots.size ≤ ((0 : Int32)).toNatClampNeg) := inb_of Sz5 ⟨by decide, by decide⟩
  have hat5 : cl5.slots[((0 : Int32)).toNatClampNeg]? = some (.int u0) := Has.at Hs5 hin5 rfl
  have k6 : ∀ t, Steps p.tables e below (s₁.setTop (mkF m 21 #[.val (.ref a1), .val (.ref a2), .val (.int (0 : Int32))] [(.int u0), (.int y0)])) t → Steps p.tables e below (s₁.setTop (entryFrame m #[(.ref a1), (.ref a2)] 3)) t := by
    intro t kt
    refine pre0 t ?_
    show Steps p.tables e below (s₁.setTop (mkF m 0 #[.val (.ref a1), .val (.ref a2), .unset] [])) _
    refine XS.aloadN X0.here hx rfl (hb hby own_d29_0) rfl rfl ?_
    show Steps p.tables e below (s₁.setTop (mkF m 1 #[.val (.ref a1), .val (.ref a2), .unset] [(.ref a1)])) _
    refine X0.arraylength hx (by rw [e0]; exact Ar1.1) (State.isArrayOf_alike hZ.alike Ar1.2.1) (g := (mkF m 1 #[.val (.ref a1), .val (.ref a2), .unset] [(.ref a1)])) rfl rfl (hb hby own_d29_1) _ ?_
    rw [len_of Sz1 Nn1]
    show Steps p.tables e below (s₁.setTop (mkF m 2 #[.val (.ref a1), .val (.ref a2), .unset] [(.int (1 : Int32))])) _
    refine XS.aloadN X0.here hx rfl (hb hby own_d29_2) rfl rfl ?_
    show Steps p.tables e below (s₁.setTop (mkF m 3 #[.val (.ref a1), .val (.ref a2), .unset] [(.ref a2), (.int (1 : Int32))])) _
    refine X0.arraylength hx (by rw [e0]; exact Ar2.1) (State.isArrayOf_alike hZ.alike Ar2.2.1) (g := (mkF m 3 #[.val (.ref a1), .val (.ref a2), .unset] [(.ref a2), (.int (1 : Int32))])) rfl rfl (hb hby own_d29_3) _ ?_
    rw [len_of Sz2 Nn2]
    show Steps p.tables e below (s₁.setTop (mkF m 4 #[.val (.ref a1), .val (.ref a2), .unset] [(.int (1 : Int32)), (.int (1 : Int32))])) _
    refine XS.icmpNo X0.here hx rfl (hb hby own_d29_4) rfl (teq (by decide : (1 : Int32) = (1 : Int32))).2 ?_
    show Steps p.tables e below (s₁.setTop (mkF m 7 #[.val (.ref a1), .val (.ref a2), .unset] [])) _
    refine XS.iconst X0.here hx rfl (hb hby own_d29_7) ?_
    show Steps p.tables e below (s₁.setTop (mkF m 8 #[.val (.ref a1), .val (.ref a2), .unset] [(.int (0 : Int32))])) _
    refine XS.istoreN X0.here hx rfl (hb hby own_d29_8) rfl (l' := #[.val (.ref a1), .val (.ref a2), .val (.int (0 : Int32))]) rfl ?_
    show Steps p.tables e below (s₁.setTop (mkF m 9 #[.val (.ref a1), .val (.ref a2), .val (.int (0 : Int32))] [])) _
    refine XS.iloadN X0.here hx rfl (hb hby own_d29_9) rfl ?_
    show Steps p.tables e below (s₁.setTop (mkF m 10 #[.val (.ref a1), .val (.ref a2), .val (.int (0 : Int32))] [(.int (0 : Int32))])) _
    refine XS.aloadN X0.here hx rfl (hb hby own_d29_10) rfl rfl ?_
    show Steps p.tables e below (s₁.setTop (mkF m 11 #[.val (.ref a1), .val (.ref a2), .val (.int (0 : Int32))] [(.ref a1), (.int (0 : Int32))])) _
    refine X0.arraylength hx (by rw [e0]; exact Ar3.1) (State.isArrayOf_alike hZ.alike Ar3.2.1) (g := (mkF m 11 #[.val (.ref a1), .val (.ref a2), .val (.int (0 : Int32))] [(.ref a1), (.int (0 : Int32))])) rfl rfl (hb hby own_d29_11) _ ?_
    rw [len_of Sz3 Nn3]
    show Steps p.tables e below (s₁.setTop (mkF m 12 #[.val (.ref a1), .val (.ref a2), .val (.int (0 : Int32))] [(.int (1 : Int32)), (.int (0 : Int32))])) _
    refine XS.icmpNo X0.here hx rfl (hb hby own_d29_12) rfl (tlt (by decide : (0 : Int32) < (1 : Int32))).2.1 ?_
    show Steps p.tables e below (s₁.setTop (mkF m 15 #[.val (.ref a1), .val (.ref a2), .val (.int (0 : Int32))] [])) _
    refine XS.aloadN X0.here hx rfl (hb hby own_d29_15) rfl rfl ?_
    show Steps p.tables e below (s₁.setTop (mkF m 16 #[.val (.ref a1), .val (.ref a2), .val (.int (0 : Int32))] [(.ref a1)])) _
    refine XS.iloadN X0.here hx rfl (hb hby own_d29_16) rfl ?_
    show Steps p.tables e below (s₁.setTop (mkF m 17 #[.val (.ref a1), .val (.ref a2), .val (.int (0 : Int32))] [(.int (0 : Int32)), (.ref a1)])) _
    refine X0.baloadBytes hx (j := (0 : Int32)) (v := (.int y0)) (by rw [e0]; exact Ar4.1) (State.isArrayOf_alike hZ.alike Ar4.2.1) Ar4.2.2 hin4 hat4 (g := (mkF m 17 #[.val (.ref a1), .val (.ref a2), .val (.int (0 : Int32))] [(.int (0 : Int32)), (.ref a1)])) rfl rfl (hb hby own_d29_17) _ ?_
    show Steps p.tables e below (s₁.setTop (mkF m 18 #[.val (.ref a1), .val (.ref a2), .val (.int (0 : Int32))] [(.int y0)])) _
    refine XS.aloadN X0.here hx rfl (hb hby own_d29_18) rfl rfl ?_
    show Steps p.tables e below (s₁.setTop (mkF m 19 #[.val (.ref a1), .val (.ref a2), .val (.int (0 : Int32))] [(.ref a2), (.int y0)])) _
    refine XS.iloadN X0.here hx rfl (hb hby own_d29_19) rfl ?_
    show Steps p.tables e below (s₁.setTop (mkF m 20 #[.val (.ref a1), .val (.ref a2), .val (.int (0 : Int32))] [(.int (0 : Int32)), (.ref a2), (.int y0)])) _
    refine X0.baloadBytes hx (j := (0 : Int32)) (v := (.int u0)) (by rw [e0]; exact Ar5.1) (State.isArrayOf_alike hZ.alike Ar5.2.1) Ar5.2.2 hin5 hat5 (g := (mkF m 20 #[.val (.ref a1), .val (.ref a2), .val (.int (0 : Int32))] [(.int (0 : Int32)), (.ref a2), (.int y0)])) rfl rfl (hb hby own_d29_20) _ ?_
    exact kt
  by_cases hc1 : y0 = u0
  ·
    obtain ⟨cl7, Ar7, qk7, Sz7, Nn7, Hs7, Gf7⟩ := id V_a1
    obtain ⟨fs, hr, hrun, hended, hW, hsame⟩ := X0.leave (hlocks := hlk) (v := some (.int (1 : Int32))) (fun h => by rw [Bd.returns] at h; cases h)
    refine ⟨_, _, k6 _ ?_, hrun, hended, _, _, rfl, ?_, ⟨_, rfl⟩, hW, hsame.mono (by decide) (by decide)⟩
    · show Steps p.tables e below (s₁.setTop (mkF m 21 #[.val (.ref a1), .val (.ref a2), .val (.int (0 : Int32))] [(.int u0), (.int y0)])) _
      refine XS.icmpYes X0.here hx rfl (pc0 := 21) (pc' := 26) rfl (hb hby own_d29_21) rfl (teq hc1).1 (by decide) (by decide) ?_
      show Steps p.tables e below (s₁.setTop (mkF m 26 #[.val (.ref a1), .val (.ref a2), .val (.int (0 : Int32))] [])) _
      refine XS.iinc X0.here hx rfl (hb hby own_d29_26) rfl (l' := #[.val (.ref a1), .val (.ref a2), .val (.int (1 : Int32))]) rfl ?_
      show Steps p.tables e below (s₁.setTop (mkF m 29 #[.val (.ref a1), .val (.ref a2), .val (.int (1 : Int32))] [])) _
      refine XS.goto X0.here hx rfl (pc0 := 29) (pc' := 9) rfl (hb hby own_d29_29) (by decide) (by decide) ?_
      show Steps p.tables e below (s₁.setTop (mkF m 9 #[.val (.ref a1), .val (.ref a2), .val (.int (1 : Int32))] [])) _
      refine XS.iloadN X0.here hx rfl (hb hby own_d29_9) rfl ?_
      show Steps p.tables e below (s₁.setTop (mkF m 10 #[.val (.ref a1), .val (.ref a2), .val (.int (1 : Int32))] [(.int (1 : Int32))])) _
      refine XS.aloadN X0.here hx rfl (hb hby own_d29_10) rfl rfl ?_
      show Steps p.tables e below (s₁.setTop (mkF m 11 #[.val (.ref a1), .val (.ref a2), .val (.int (1 : Int32))] [(.ref a1), (.int (1 : Int32))])) _
      refine X0.arraylength hx (by rw [e0]; exact Ar7.1) (State.isArrayOf_alike hZ.alike Ar7.2.1) (g := (mkF m 11 #[.val (.ref a1), .val (.ref a2), .val (.int (1 : Int32))] [(.ref a1), (.int (1 : Int32))])) rfl rfl (hb hby own_d29_11) _ ?_
      rw [len_of Sz7 Nn7]
      show Steps p.tables e below (s₁.setTop (mkF m 12 #[.val (.ref a1), .val (.ref a2), .val (.int (1 : Int32))] [(.int (1 : Int32)), (.int (1 : Int32))])) _
      refine XS.icmpYes X0.here hx rfl (pc0 := 12) (pc' := 32) rfl (hb hby own_d29_12) rfl (flt (by decide : ¬ ((1 : Int32) < (1 : Int32)))).2.1 (by decide) (by decide) ?_
      show Steps p.tables e below (s₁.setTop (mkF m 32 #[.val (.ref a1), .val (.ref a2), .val (.int (1 : Int32))] [])) _
      refine XS.iconst X0.here hx rfl (hb hby own_d29_32) ?_
      show Steps p.tables e below (s₁.setTop (mkF m 33 #[.val (.ref a1), .val (.ref a2), .val (.int (1 : Int32))] [(.int (1 : Int32))])) _
      exact retN X0 hx (t := .boolean) Bd.returns (by simp) (hb hby own_d29_33) hr
    · show own_vAA_Q29 Z a1 a2 k_a1 y0 k_a2 u0 h0 n0 _ s₁.heap _
      rw [e0]
      exact ⟨(by rw [own_vAA_f29, if_pos hc1]), N0, rfl⟩
  ·
    obtain ⟨fs, hr, hrun, hended, hW, hsame⟩ := X0.leave (hlocks := hlk) (v := some (.int (0 : Int32))) (fun h => by rw [Bd.returns] at h; cases h)
    refine ⟨_, _, k6 _ ?_, hrun, hended, _, _, rfl, ?_, ⟨_, rfl⟩, hW, hsame.mono (by decide) (by decide)⟩
    · show Steps p.tables e below (s₁.setTop (mkF m 21 #[.val (.ref a1), .val (.ref a2), .val (.int (0 : Int32))] [(.int u0), (.int y0)])) _
      refine XS.icmpNo X0.here hx rfl (hb hby own_d29_21) rfl (feq hc1).1 ?_
      show Steps p.tables e below (s₁.setTop (mkF m 24 #[.val (.ref a1), .val (.ref a2), .val (.int (0 : Int32))] [])) _
      refine XS.iconst X0.here hx rfl (hb hby own_d29_24) ?_
      show Steps p.tables e below (s₁.setTop (mkF m 25 #[.val (.ref a1), .val (.ref a2), .val (.int (0 : Int32))] [(.int (0 : Int32))])) _
      exact retN X0 hx (t := .boolean) Bd.returns (by simp) (hb hby own_d29_25) hr
    · show own_vAA_Q29 Z a1 a2 k_a1 y0 k_a2 u0 h0 n0 _ s₁.heap _
      rw [e0]
      exact ⟨(by rw [own_vAA_f29, if_neg hc1]), N0, rfl⟩
-- body 29, variant AB
theorem own_d29_34 : decode jdk_43_method_13_code 34 = .ok (.iconst 0, 1) := by decide +kernel
theorem own_d29_35 : decode jdk_43_method_13_code 35 = .ok (.ireturn, 1) := by decide +kernel
theorem own_vAB_ef29 (m : MethodId) (x0 : Addr) (x1 : Addr) : entryFrame m #[(.ref x0), (.ref x1)] 3 = mkF m 0 #[.val (.ref x0), .val (.ref x1), .unset] [] := by first | (simp [entryFrame, mkF, argsToLocals, Value.category]; done) | rfl
def own_vAB_f29 : Int32 := (0 : Int32)
def own_vAB_Q29 (Z : State) (a1 : Addr) (a2 : Addr) (k_a1 : ClassId) (y0 : Int32) (k_a2 : ClassId) (u0 : Int32) (u1 : Int32) (h0 : Heap) (n0 : Nat) (v : Option Value) (h : Heap) (L : List Loc) : Prop := v = some (.int (own_vAB_f29)) ∧ Fr n0 L ∧ h = h0
set_option maxRecDepth 65536 in
set_option maxHeartbeats 40000000 in
theorem own_vAB_rm29 (l : Launch) (Z : State) (a0 : Array Value) (hw : ∀ d ∈ tables_1, d.before a0 Z = true) (ws : List Jvm.Cond) (a1 : Addr) (a2 : Addr) (k_a1 : ClassId) (y0 : Int32) (k_a2 : ClassId) (u0 : Int32) (u1 : Int32) (h0 : Heap) (n0 : Nat) (Z0 : n0 ≤ h0.size) (V_a1 : Arv Z h0 a1 k_a1 .byte (1 : Int32) [(.int y0)] (.int (0 : Int32))) (V_a2 : Arv Z h0 a2 k_a2 .byte (2 : Int32) [(.int u0), (.int u1)] (.int (0 : Int32))) :
    MetFree l (⟨"java/lang/StringLatin1", "equals", "([B[B)Z"⟩ : MethodName) (head1 (Jvm.Cond.code (⟨"java/lang/StringLatin1", "equals", "([B[B)Z"⟩ : MethodName) jdk_43_method_13_code 3 (some .boolean) :: ws) ({ frames := 0, cells := 0, slots := 0, locals := 0 } : Room)) (fun a U => a = #[(.ref a1), (.ref a2)] ∧ Z.Warmed39 U.vm ∧ U.heap = h0) (fun _ _ _ _ _ => True) (fun _ U o U' => ∃ v L, o = .returned v ∧ own_vAB_Q29 Z a1 a2 k_a1 y0 k_a2 u0 u1 h0 n0 v U'.heap L ∧ FrameEnd U o U' L ({ frames := 0, cells := 0, slots := 0, locals := 0 } : Room).cells ({ frames := 0, cells := 0, slots := 0, locals := 0 } : Room).slots) := by
  refine MetFree.of_bodySF (plainFor_of_name own_pn193) hisR ?_
  intro p e s m args below meth c s₁ Bd hml0 hP hK
  obtain ⟨rfl, hZ, hh⟩ := hP
  have hx := Bd.exec
  have hby := Bd.bytes
  have hml : c.maxLocals = 3 := hml0
  have hown : s.vm.findClass "java/lang/StringLatin1" = some m.cls := findClass_of_methodNamed Bd.named
  have hnm := (name_of_methodNamed Bd.named Bd.method).1
  have X0 : Stand p l e ({ frames := 0, cells := 0, slots := 0, locals := 0 } : Room) s m #[(.ref a1), (.ref a2)] below meth c s₁ [] 0 0 := Stand.of_body Bd
  have hS0 : s.Since s.vm 0 := (State.WarmedH.refl s).since 0
  have hk0 : 0 ≤ h0.size := Nat.zero_le _
  have hlk := Bd.notSynchronized
  have e0 : s₁.heap = h0 := by rw [← hh, Bd.state]; rfl
  have N0 := Fr.nil n0
  have pre0 : ∀ t, Steps p.tables e below (s₁.setTop (mkF m 0 #[.val (.ref a1), .val (.ref a2), .unset] [])) t → Steps p.tables e below (s₁.setTop (entryFrame m #[(.ref a1), (.ref a2)] 3)) t := fun t k => castTop (own_vAB_ef29 m a1 a2) k
  obtain ⟨cl1, Ar1, qk1, Sz1, Nn1, Hs1, Gf1⟩ := id V_a1
  obtain ⟨cl2, Ar2, qk2, Sz2, Nn2, Hs2, Gf2⟩ := id V_a2
  obtain ⟨fs, hr, hrun, hended, hW, hsame⟩ := X0.leave (hlocks := hlk) (v := some (.int (0 : Int32))) (fun h => by rw [Bd.returns] at h; cases h)
  refine ⟨_, _, pre0 _ ?_, hrun, hended, _, _, rfl, ?_, ⟨_, rfl⟩, hW, hsame.mono (by decide) (by decide)⟩
  · show Steps p.tables e below (s₁.setTop (mkF m 0 #[.val (.ref a1), .val (.ref a2), .unset] [])) _
    refine XS.aloadN X0.here hx rfl (hb hby own_d29_0) rfl rfl ?_
    show Steps p.tables e below (s₁.setTop (mkF m 1 #[.val (.ref a1), .val (.ref a2), .unset] [(.ref a1)])) _
    refine X0.arraylength hx (by rw [e0]; exact Ar1.1) (State.isArrayOf_alike hZ.alike Ar1.2.1) (g := (mkF m 1 #[.val (.ref a1), .val (.ref a2), .unset] [(.ref a1)])) rfl rfl (hb hby own_d29_1) _ ?_
    rw [len_of Sz1 Nn1]
    show Steps p.tables e below (s₁.setTop (mkF m 2 #[.val (.ref a1), .val (.ref a2), .unset] [(.int (1 : Int32))])) _
    refine XS.aloadN X0.here hx rfl (hb hby own_d29_2) rfl rfl ?_
    show Steps p.tables e below (s₁.setTop (mkF m 3 #[.val (.ref a1), .val (.ref a2), .unset] [(.ref a2), (.int (1 : Int32))])) _
    refine X0.arraylength hx (by rw [e0]; exact Ar2.1) (State.isArrayOf_alike hZ.alike Ar2.2.1) (g := (mkF m 3 #[.val (.ref a1), .val (.ref a2), .unset] [(.ref a2), (.int (1 : Int32))])) rfl rfl (hb hby own_d29_3) _ ?_
    rw [len_of Sz2 Nn2]
    show Steps p.tables e below (s₁.setTop (mkF m 4 #[.val (.ref a1), .val (.ref a2), .unset] [(.int (2 : Int32)), (.int (1 : Int32))])) _
    refine XS.icmpYes X0.here hx rfl (pc0 := 4) (pc' := 34) rfl (hb hby own_d29_4) rfl (feq (by decide : ¬ ((1 : Int32) = (2 : Int32)))).2 (by decide) (by decide) ?_
    show Steps p.tables e below (s₁.setTop (mkF m 34 #[.val (.ref a1), .val (.ref a2), .unset] [])) _
    refine XS.iconst X0.here hx rfl (hb hby own_d29_34) ?_
    show Steps p.tables e below (s₁.setTop (mkF m 35 #[.val (.ref a1), .val (.ref a2), .unset] [(.int (0 : Int32))])) _
    exact retN X0 hx (t := .boolean) Bd.returns (by simp) (hb hby own_d29_35) hr
  · show own_vAB_Q29 Z a1 a2 k_a1 y0 k_a2 u0 u1 h0 n0 _ s₁.heap _
    rw [e0]
    exact ⟨(by rw [own_vAB_f29]), N0, rfl⟩
-- body 29, variant BA
theorem own_vBA_ef29 (m : MethodId) (x0 : Addr) (x1 : Addr) : entryFrame m #[(.ref x0), (.ref x1)] 3 = mkF m 0 #[.val (.ref x0), .val (.ref x1), .unset] [] := by first | (simp [entryFrame, mkF, argsToLocals, Value.category]; done) | rfl
def own_vBA_f29 : Int32 := (0 : Int32)
def own_vBA_Q29 (Z : State) (a1 : Addr) (a2 : Addr) (k_a1 : ClassId) (y0 : Int32) (y1 : Int32) (k_a2 : ClassId) (u0 : Int32) (h0 : Heap) (n0 : Nat) (v : Option Value) (h : Heap) (L : List Loc) : Prop := v = some (.int (own_vBA_f29)) ∧ Fr n0 L ∧ h = h0
set_option maxRecDepth 65536 in
set_option maxHeartbeats 40000000 in
theorem own_vBA_rm29 (l : Launch) (Z : State) (a0 : Array Value) (hw : ∀ d ∈ tables_1, d.before a0 Z = true) (ws : List Jvm.Cond) (a1 : Addr) (a2 : Addr) (k_a1 : ClassId) (y0 : Int32) (y1 : Int32) (k_a2 : ClassId) (u0 : Int32) (h0 : Heap) (n0 : Nat) (Z0 : n0 ≤ h0.size) (V_a1 : Arv Z h0 a1 k_a1 .byte (2 : Int32) [(.int y0), (.int y1)] (.int (0 : Int32))) (V_a2 : Arv Z h0 a2 k_a2 .byte (1 : Int32) [(.int u0)] (.int (0 : Int32))) :
    MetFree l (⟨"java/lang/StringLatin1", "equals", "([B[B)Z"⟩ : MethodName) (head1 (Jvm.Cond.code (⟨"java/lang/StringLatin1", "equals", "([B[B)Z"⟩ : MethodName) jdk_43_method_13_code 3 (some .boolean) :: ws) ({ frames := 0, cells := 0, slots := 0, locals := 0 } : Room)) (fun a U => a = #[(.ref a1), (.ref a2)] ∧ Z.Warmed39 U.vm ∧ U.heap = h0) (fun _ _ _ _ _ => True) (fun _ U o U' => ∃ v L, o = .returned v ∧ own_vBA_Q29 Z a1 a2 k_a1 y0 y1 k_a2 u0 h0 n0 v U'.heap L ∧ FrameEnd U o U' L ({ frames := 0, cells := 0, slots := 0, locals := 0 } : Room).cells ({ frames := 0, cells := 0, slots := 0, locals := 0 } : Room).slots) := by
  refine MetFree.of_bodySF (plainFor_of_name own_pn193) hisR ?_
  intro p e s m args below meth c s₁ Bd hml0 hP hK
  obtain ⟨rfl, hZ, hh⟩ := hP
  have hx := Bd.exec
  have hby := Bd.bytes
  have hml : c.maxLocals = 3 := hml0
  have hown : s.vm.findClass "java/lang/StringLatin1" = some m.cls := findClass_of_methodNamed Bd.named
  have hnm := (name_of_methodNamed Bd.named Bd.method).1
  have X0 : Stand p l e ({ frames := 0, cells := 0, slots := 0, locals := 0 } : Room) s m #[(.ref a1), (.ref a2)] below meth c s₁ [] 0 0 := Stand.of_body Bd
  have hS0 : s.Since s.vm 0 := (State.WarmedH.refl s).since 0
  have hk0 : 0 ≤ h0.size := Nat.zero_le _
  have hlk := Bd.notSynchronized
  have e0 : s₁.heap = h0 := by rw [← hh, Bd.state]; rfl
  have N0 := Fr.nil n0
  have pre0 : ∀ t, Steps p.tables e below (s₁.setTop (mkF m 0 #[.val (.ref a1), .val (.ref a2), .unset] [])) t → Steps p.tables e below (s₁.setTop (entryFrame m #[(.ref a1), (.ref a2)] 3)) t := fun t k => castTop (own_vBA_ef29 m a1 a2) k
  obtain ⟨cl1, Ar1, qk1, Sz1, Nn1, Hs1, Gf1⟩ := id V_a1
  obtain ⟨cl2, Ar2, qk2, Sz2, Nn2, Hs2, Gf2⟩ := id V_a2
  obtain ⟨fs, hr, hrun, hended, hW, hsame⟩ := X0.leave (hlocks := hlk) (v := some (.int (0 : Int32))) (fun h => by rw [Bd.returns] at h; cases h)
  refine ⟨_, _, pre0 _ ?_, hrun, hended, _, _, rfl, ?_, ⟨_, rfl⟩, hW, hsame.mono (by decide) (by decide)⟩
  · show Steps p.tables e below (s₁.setTop (mkF m 0 #[.val (.ref a1), .val (.ref a2), .unset] [])) _
    refine XS.aloadN X0.here hx rfl (hb hby own_d29_0) rfl rfl ?_
    show Steps p.tables e below (s₁.setTop (mkF m 1 #[.val (.ref a1), .val (.ref a2), .unset] [(.ref a1)])) _
    refine X0.arraylength hx (by rw [e0]; exact Ar1.1) (State.isArrayOf_alike hZ.alike Ar1.2.1) (g := (mkF m 1 #[.val (.ref a1), .val (.ref a2), .unset] [(.ref a1)])) rfl rfl (hb hby own_d29_1) _ ?_
    rw [len_of Sz1 Nn1]
    show Steps p.tables e below (s₁.setTop (mkF m 2 #[.val (.ref a1), .val (.ref a2), .unset] [(.int (2 : Int32))])) _
    refine XS.aloadN X0.here hx rfl (hb hby own_d29_2) rfl rfl ?_
    show Steps p.tables e below (s₁.setTop (mkF m 3 #[.val (.ref a1), .val (.ref a2), .unset] [(.ref a2), (.int (2 : Int32))])) _
    refine X0.arraylength hx (by rw [e0]; exact Ar2.1) (State.isArrayOf_alike hZ.alike Ar2.2.1) (g := (mkF m 3 #[.val (.ref a1), .val (.ref a2), .unset] [(.ref a2), (.int (2 : Int32))])) rfl rfl (hb hby own_d29_3) _ ?_
    rw [len_of Sz2 Nn2]
    show Steps p.tables e below (s₁.setTop (mkF m 4 #[.val (.ref a1), .val (.ref a2), .unset] [(.int (1 : Int32)), (.int (2 : Int32))])) _
    refine XS.icmpYes X0.here hx rfl (pc0 := 4) (pc' := 34) rfl (hb hby own_d29_4) rfl (feq (by decide : ¬ ((2 : Int32) = (1 : Int32)))).2 (by decide) (by decide) ?_
    show Steps p.tables e below (s₁.setTop (mkF m 34 #[.val (.ref a1), .val (.ref a2), .unset] [])) _
    refine XS.iconst X0.here hx rfl (hb hby own_d29_34) ?_
    show Steps p.tables e below (s₁.setTop (mkF m 35 #[.val (.ref a1), .val (.ref a2), .unset] [(.int (0 : Int32))])) _
    exact retN X0 hx (t := .boolean) Bd.returns (by simp) (hb hby own_d29_35) hr
  · show own_vBA_Q29 Z a1 a2 k_a1 y0 y1 k_a2 u0 h0 n0 _ s₁.heap _
    rw [e0]
    exact ⟨(by rw [own_vBA_f29]), N0, rfl⟩
-- body 29, variant BB
theorem own_vBB_ef29 (m : MethodId) (x0 : Addr) (x1 : Addr) : entryFrame m #[(.ref x0), (.ref x1)] 3 = mkF m 0 #[.val (.ref x0), .val (.ref x1), .unset] [] := by first | (simp [entryFrame, mkF, argsToLocals, Value.category]; done) | rfl
def own_vBB_f29 (y0 : Int32) (y1 : Int32) (u0 : Int32) (u1 : Int32) : Int32 := if y0 = u0 then (if y1 = u1 then (1 : Int32)
      else (0 : Int32))
    else (0 : Int32)
def own_vBB_Q29 (Z : State) (a1 : Addr) (a2 : Addr) (k_a1 : ClassId) (y0 : Int32) (y1 : Int32) (k_a2 : ClassId) (u0 : Int32) (u1 : Int32) (h0 : Heap) (n0 : Nat) (v : Option Value) (h : Heap) (L : List Loc) : Prop := v = some (.int (own_vBB_f29 y0 y1 u0 u1)) ∧ Fr n0 L ∧ h = h0
set_option maxRecDepth 65536 in
set_option maxHeartbeats 40000000 in
theorem own_vBB_rm29 (l : Launch) (Z : State) (a0 : Array Value) (hw : ∀ d ∈ tables_1, d.before a0 Z = true) (ws : List Jvm.Cond) (a1 : Addr) (a2 : Addr) (k_a1 : ClassId) (y0 : Int32) (y1 : Int32) (k_a2 : ClassId) (u0 : Int32) (u1 : Int32) (h0 : Heap) (n0 : Nat) (Z0 : n0 ≤ h0.size) (V_a1 : Arv Z h0 a1 k_a1 .byte (2 : Int32) [(.int y0), (.int y1)] (.int (0 : Int32))) (V_a2 : Arv Z h0 a2 k_a2 .byte (2 : Int32) [(.int u0), (.int u1)] (.int (0 : Int32))) :
    MetFree l (⟨"java/lang/StringLatin1", "equals", "([B[B)Z"⟩ : MethodName) (head1 (Jvm.Cond.code (⟨"java/lang/StringLatin1", "equals", "([B[B)Z"⟩ : MethodName) jdk_43_method_13_code 3 (some .boolean) :: ws) ({ frames := 0, cells := 0, slots := 0, locals := 0 } : Room)) (fun a U => a = #[(.ref a1), (.ref a2)] ∧ Z.Warmed39 U.vm ∧ U.heap = h0) (fun _ _ _ _ _ => True) (fun _ U o U' => ∃ v L, o = .returned v ∧ own_vBB_Q29 Z a1 a2 k_a1 y0 y1 k_a2 u0 u1 h0 n0 v U'.heap L ∧ FrameEnd U o U' L ({ frames := 0, cells := 0, slots := 0, locals := 0 } : Room).cells ({ frames := 0, cells := 0, slots := 0, locals := 0 } : Room).slots) := by
  refine MetFree.of_bodySF (plainFor_of_name own_pn193) hisR ?_
  intro p e s m args below meth c s₁ Bd hml0 hP hK
  obtain ⟨rfl, hZ, hh⟩ := hP
  have hx := Bd.exec
  have hby := Bd.bytes
  have hml : c.maxLocals = 3 := hml0
  have hown : s.vm.findClass "java/lang/StringLatin1" = some m.cls := findClass_of_methodNamed Bd.named
  have hnm := (name_of_methodNamed Bd.named Bd.method).1
  have X0 : Stand p l e ({ frames := 0, cells := 0, slots := 0, locals := 0 } : Room) s m #[(.ref a1), (.ref a2)] below meth c s₁ [] 0 0 := Stand.of_body Bd
  have hS0 : s.Since s.vm 0 := (State.WarmedH.refl s).since 0
  have hk0 : 0 ≤ h0.size := Nat.zero_le _
  have hlk := Bd.notSynchronized
  have e0 : s₁.heap = h0 := by rw [← hh, Bd.state]; rfl
  have N0 := Fr.nil n0
  have pre0 : ∀ t, Steps p.tables e below (s₁.setTop (mkF m 0 #[.val (.ref a1), .val (.ref a2), .unset] [])) t → Steps p.tables e below (s₁.setTop (entryFrame m #[(.ref a1), (.ref a2)] 3)) t := fun t k => castTop (own_vBB_ef29 m a1 a2) k
  obtain ⟨cl1, Ar1, qk1, Sz1, Nn1, Hs1, Gf1⟩ := id V_a1
  obtain ⟨cl2, Ar2, qk2, Sz2, Nn2, Hs2, Gf2⟩ := id V_a2
  obtain ⟨cl3, Ar3, qk3, Sz3, Nn3, Hs3, Gf3⟩ := id V_a1
  obtain ⟨cl4, Ar4, qk4, Sz4, Nn4, Hs4, Gf4⟩ := id V_a1
  have hin4 : ¬ ((0 : Int32) < 0 ∨ cl4.slots.size ≤ ((0 : Int32)).toNatClampNeg) := inb_of Sz4 ⟨by decide, by decide⟩
  have hat4 : cl4.slots[((0 : Int32)).toNatClampNeg]? = some (.int y0) := Has.at Hs4 hin4 rfl
  obtain ⟨cl5, Ar5, qk5, Sz5, Nn5, Hs5, Gf5⟩ := id V_a2
  have hin5 : ¬ ((0 : Int32) < 0 ∨ cl5.slots.size ≤ ((0 : Int32)).toNatClampNeg) := inb_of Sz5 ⟨by decide, by decide⟩
  have hat5 : cl5.slots[((0 : Int32)).toNatClampNeg]? = some (.int u0) := Has.at Hs5 hin5 rfl
  have k6 : ∀ t, Steps p.tables e below (s₁.setTop (mkF m 21 #[.val (.ref a1), .val (.ref a2), .val (.int (0 : Int32))] [(.int u0), (.int y0)])) t → Steps p.tables e below (s₁.setTop (entryFrame m #[(.ref a1), (.ref a2)] 3)) t := by
    intro t kt
    refine pre0 t ?_
    show Steps p.tables e below (s₁.setTop (mkF m 0 #[.val (.ref a1), .val (.ref a2), .unset] [])) _
    refine XS.aloadN X0.here hx rfl (hb hby own_d29_0) rfl rfl ?_
    show Steps p.tables e below (s₁.setTop (mkF m 1 #[.val (.ref a1), .val (.ref a2), .unset] [(.ref a1)])) _
    refine X0.arraylength hx (by rw [e0]; exact Ar1.1) (State.isArrayOf_alike hZ.alike Ar1.2.1) (g := (mkF m 1 #[.val (.ref a1), .val (.ref a2), .unset] [(.ref a1)])) rfl rfl (hb hby own_d29_1) _ ?_
    rw [len_of Sz1 Nn1]
    show Steps p.tables e below (s₁.setTop (mkF m 2 #[.val (.ref a1), .val (.ref a2), .unset] [(.int (2 : Int32))])) _
    refine XS.aloadN X0.here hx rfl (hb hby own_d29_2) rfl rfl ?_
    show Steps p.tables e below (s₁.setTop (mkF m 3 #[.val (.ref a1), .val (.ref a2), .unset] [(.ref a2), (.int (2 : Int32))])) _
    refine X0.arraylength hx (by rw [e0]; exact Ar2.1) (State.isArrayOf_alike hZ.alike Ar2.2.1) (g := (mkF m 3 #[.val (.ref a1), .val (.ref a2), .unset] [(.ref a2), (.int (2 : Int32))])) rfl rfl (hb hby own_d29_3) _ ?_
    rw [len_of Sz2 Nn2]
    show Steps p.tables e below (s₁.setTop (mkF m 4 #[.val (.ref a1), .val (.ref a2), .unset] [(.int (2 : Int32)), (.int (2 : Int32))])) _
    refine XS.icmpNo X0.here hx rfl (hb hby own_d29_4) rfl (teq (by decide : (2 : Int32) = (2 : Int32))).2 ?_
    show Steps p.tables e below (s₁.setTop (mkF m 7 #[.val (.ref a1), .val (.ref a2), .unset] [])) _
    refine XS.iconst X0.here hx rfl (hb hby own_d29_7) ?_
    show Steps p.tables e below (s₁.setTop (mkF m 8 #[.val (.ref a1), .val (.ref a2), .unset] [(.int (0 : Int32))])) _
    refine XS.istoreN X0.here hx rfl (hb hby own_d29_8) rfl (l' := #[.val (.ref a1), .val (.ref a2), .val (.int (0 : Int32))]) rfl ?_
    show Steps p.tables e below (s₁.setTop (mkF m 9 #[.val (.ref a1), .val (.ref a2), .val (.int (0 : Int32))] [])) _
    refine XS.iloadN X0.here hx rfl (hb hby own_d29_9) rfl ?_
    show Steps p.tables e below (s₁.setTop (mkF m 10 #[.val (.ref a1), .val (.ref a2), .val (.int (0 : Int32))] [(.int (0 : Int32))])) _
    refine XS.aloadN X0.here hx rfl (hb hby own_d29_10) rfl rfl ?_
    show Steps p.tables e below (s₁.setTop (mkF m 11 #[.val (.ref a1), .val (.ref a2), .val (.int (0 : Int32))] [(.ref a1), (.int (0 : Int32))])) _
    refine X0.arraylength hx (by rw [e0]; exact Ar3.1) (State.isArrayOf_alike hZ.alike Ar3.2.1) (g := (mkF m 11 #[.val (.ref a1), .val (.ref a2), .val (.int (0 : Int32))] [(.ref a1), (.int (0 : Int32))])) rfl rfl (hb hby own_d29_11) _ ?_
    rw [len_of Sz3 Nn3]
    show Steps p.tables e below (s₁.setTop (mkF m 12 #[.val (.ref a1), .val (.ref a2), .val (.int (0 : Int32))] [(.int (2 : Int32)), (.int (0 : Int32))])) _
    refine XS.icmpNo X0.here hx rfl (hb hby own_d29_12) rfl (tlt (by decide : (0 : Int32) < (2 : Int32))).2.1 ?_
    show Steps p.tables e below (s₁.setTop (mkF m 15 #[.val (.ref a1), .val (.ref a2), .val (.int (0 : Int32))] [])) _
    refine XS.aloadN X0.here hx rfl (hb hby own_d29_15) rfl rfl ?_
    show Steps p.tables e below (s₁.setTop (mkF m 16 #[.val (.ref a1), .val (.ref a2), .val (.int (0 : Int32))] [(.ref a1)])) _
    refine XS.iloadN X0.here hx rfl (hb hby own_d29_16) rfl ?_
    show Steps p.tables e below (s₁.setTop (mkF m 17 #[.val (.ref a1), .val (.ref a2), .val (.int (0 : Int32))] [(.int (0 : Int32)), (.ref a1)])) _
    refine X0.baloadBytes hx (j := (0 : Int32)) (v := (.int y0)) (by rw [e0]; exact Ar4.1) (State.isArrayOf_alike hZ.alike Ar4.2.1) Ar4.2.2 hin4 hat4 (g := (mkF m 17 #[.val (.ref a1), .val (.ref a2), .val (.int (0 : Int32))] [(.int (0 : Int32)), (.ref a1)])) rfl rfl (hb hby own_d29_17) _ ?_
    show Steps p.tables e below (s₁.setTop (mkF m 18 #[.val (.ref a1), .val (.ref a2), .val (.int (0 : Int32))] [(.int y0)])) _
    refine XS.aloadN X0.here hx rfl (hb hby own_d29_18) rfl rfl ?_
    show Steps p.tables e below (s₁.setTop (mkF m 19 #[.val (.ref a1), .val (.ref a2), .val (.int (0 : Int32))] [(.ref a2), (.int y0)])) _
    refine XS.iloadN X0.here hx rfl (hb hby own_d29_19) rfl ?_
    show Steps p.tables e below (s₁.setTop (mkF m 20 #[.val (.ref a1), .val (.ref a2), .val (.int (0 : Int32))] [(.int (0 : Int32)), (.ref a2), (.int y0)])) _
    refine X0.baloadBytes hx (j := (0 : Int32)) (v := (.int u0)) (by rw [e0]; exact Ar5.1) (State.isArrayOf_alike hZ.alike Ar5.2.1) Ar5.2.2 hin5 hat5 (g := (mkF m 20 #[.val (.ref a1), .val (.ref a2), .val (.int (0 : Int32))] [(.int (0 : Int32)), (.ref a2), (.int y0)])) rfl rfl (hb hby own_d29_20) _ ?_
    exact kt
  by_cases hc1 : y0 = u0
  ·
    obtain ⟨cl7, Ar7, qk7, Sz7, Nn7, Hs7, Gf7⟩ := id V_a1
    obtain ⟨cl8, Ar8, qk8, Sz8, Nn8, Hs8, Gf8⟩ := id V_a1
    have hin8 : ¬ ((1 : Int32) < 0 ∨ cl8.slots.size ≤ ((1 : Int32)).toNatClampNeg) := inb_of Sz8 ⟨by decide, by decide⟩
    have hat8 : cl8.slots[((1 : Int32)).toNatClampNeg]? = some (.int y1) := Has.at Hs8 hin8 rfl
    obtain ⟨cl9, Ar9, qk9, Sz9, Nn9, Hs9, Gf9⟩ := id V_a2
    have hin9 : ¬ ((1 : Int32) < 0 ∨ cl9.slots.size ≤ ((1 : Int32)).toNatClampNeg) := inb_of Sz9 ⟨by decide, by decide⟩
    have hat9 : cl9.slots[((1 : Int32)).toNatClampNeg]? = some (.int u1) := Has.at Hs9 hin9 rfl
    have k10 : ∀ t, Steps p.tables e below (s₁.setTop (mkF m 21 #[.val (.ref a1), .val (.ref a2), .val (.int (1 : Int32))] [(.int u1), (.int y1)])) t → Steps p.tables e below (s₁.setTop (entryFrame m #[(.ref a1), (.ref a2)] 3)) t := by
      intro t kt
      refine k6 t ?_
      show Steps p.tables e below (s₁.setTop (mkF m 21 #[.val (.ref a1), .val (.ref a2), .val (.int (0 : Int32))] [(.int u0), (.int y0)])) _
      refine XS.icmpYes X0.here hx rfl (pc0 := 21) (pc' := 26) rfl (hb hby own_d29_21) rfl (teq hc1).1 (by decide) (by decide) ?_
      show Steps p.tables e below (s₁.setTop (mkF m 26 #[.val (.ref a1), .val (.ref a2), .val (.int (0 : Int32))] [])) _
      refine XS.iinc X0.here hx rfl (hb hby own_d29_26) rfl (l' := #[.val (.ref a1), .val (.ref a2), .val (.int (1 : Int32))]) rfl ?_
      show Steps p.tables e below (s₁.setTop (mkF m 29 #[.val (.ref a1), .val (.ref a2), .val (.int (1 : Int32))] [])) _
      refine XS.goto X0.here hx rfl (pc0 := 29) (pc' := 9) rfl (hb hby own_d29_29) (by decide) (by decide) ?_
      show Steps p.tables e below (s₁.setTop (mkF m 9 #[.val (.ref a1), .val (.ref a2), .val (.int (1 : Int32))] [])) _
      refine XS.iloadN X0.here hx rfl (hb hby own_d29_9) rfl ?_
      show Steps p.tables e below (s₁.setTop (mkF m 10 #[.val (.ref a1), .val (.ref a2), .val (.int (1 : Int32))] [(.int (1 : Int32))])) _
      refine XS.aloadN X0.here hx rfl (hb hby own_d29_10) rfl rfl ?_
      show Steps p.tables e below (s₁.setTop (mkF m 11 #[.val (.ref a1), .val (.ref a2), .val (.int (1 : Int32))] [(.ref a1), (.int (1 : Int32))])) _
      refine X0.arraylength hx (by rw [e0]; exact Ar7.1) (State.isArrayOf_alike hZ.alike Ar7.2.1) (g := (mkF m 11 #[.val (.ref a1), .val (.ref a2), .val (.int (1 : Int32))] [(.ref a1), (.int (1 : Int32))])) rfl rfl (hb hby own_d29_11) _ ?_
      rw [len_of Sz7 Nn7]
      show Steps p.tables e below (s₁.setTop (mkF m 12 #[.val (.ref a1), .val (.ref a2), .val (.int (1 : Int32))] [(.int (2 : Int32)), (.int (1 : Int32))])) _
      refine XS.icmpNo X0.here hx rfl (hb hby own_d29_12) rfl (tlt (by decide : (1 : Int32) < (2 : Int32))).2.1 ?_
      show Steps p.tables e below (s₁.setTop (mkF m 15 #[.val (.ref a1), .val (.ref a2), .val (.int (1 : Int32))] [])) _
      refine XS.aloadN X0.here hx rfl (hb hby own_d29_15) rfl rfl ?_
      show Steps p.tables e below (s₁.setTop (mkF m 16 #[.val (.ref a1), .val (.ref a2), .val (.int (1 : Int32))] [(.ref a1)])) _
      refine XS.iloadN X0.here hx rfl (hb hby own_d29_16) rfl ?_
      show Steps p.tables e below (s₁.setTop (mkF m 17 #[.val (.ref a1), .val (.ref a2), .val (.int (1 : Int32))] [(.int (1 : Int32)), (.ref a1)])) _
      refine X0.baloadBytes hx (j := (1 : Int32)) (v := (.int y1)) (by rw [e0]; exact Ar8.1) (State.isArrayOf_alike hZ.alike Ar8.2.1) Ar8.2.2 hin8 hat8 (g := (mkF m 17 #[.val (.ref a1), .val (.ref a2), .val (.int (1 : Int32))] [(.int (1 : Int32)), (.ref a1)])) rfl rfl (hb hby own_d29_17) _ ?_
      show Steps p.tables e below (s₁.setTop (mkF m 18 #[.val (.ref a1), .val (.ref a2), .val (.int (1 : Int32))] [(.int y1)])) _
      refine XS.aloadN X0.here hx rfl (hb hby own_d29_18) rfl rfl ?_
      show Steps p.tables e below (s₁.setTop (mkF m 19 #[.val (.ref a1), .val (.ref a2), .val (.int (1 : Int32))] [(.ref a2), (.int y1)])) _
      refine XS.iloadN X0.here hx rfl (hb hby own_d29_19) rfl ?_
      show Steps p.tables e below (s₁.setTop (mkF m 20 #[.val (.ref a1), .val (.ref a2), .val (.int (1 : Int32))] [(.int (1 : Int32)), (.ref a2), (.int y1)])) _
      refine X0.baloadBytes hx (j := (1 : Int32)) (v := (.int u1)) (by rw [e0]; exact Ar9.1) (State.isArrayOf_alike hZ.alike Ar9.2.1) Ar9.2.2 hin9 hat9 (g := (mkF m 20 #[.val (.ref a1), .val (.ref a2), .val (.int (1 : Int32))] [(.int (1 : Int32)), (.ref a2), (.int y1)])) rfl rfl (hb hby own_d29_20) _ ?_
      exact kt
    by_cases hc2 : y1 = u1
    ·
      obtain ⟨cl11, Ar11, qk11, Sz11, Nn11, Hs11, Gf11⟩ := id V_a1
      obtain ⟨fs, hr, hrun, hended, hW, hsame⟩ := X0.leave (hlocks := hlk) (v := some (.int (1 : Int32))) (fun h => by rw [Bd.returns] at h; cases h)
      refine ⟨_, _, k10 _ ?_, hrun, hended, _, _, rfl, ?_, ⟨_, rfl⟩, hW, hsame.mono (by decide) (by decide)⟩
      · show Steps p.tables e below (s₁.setTop (mkF m 21 #[.val (.ref a1), .val (.ref a2), .val (.int (1 : Int32))] [(.int u1), (.int y1)])) _
        refine XS.icmpYes X0.here hx rfl (pc0 := 21) (pc' := 26) rfl (hb hby own_d29_21) rfl (teq hc2).1 (by decide) (by decide) ?_
        show Steps p.tables e below (s₁.setTop (mkF m 26 #[.val (.ref a1), .val (.ref a2), .val (.int (1 : Int32))] [])) _
        refine XS.iinc X0.here hx rfl (hb hby own_d29_26) rfl (l' := #[.val (.ref a1), .val (.ref a2), .val (.int (2 : Int32))]) rfl ?_
        show Steps p.tables e below (s₁.setTop (mkF m 29 #[.val (.ref a1), .val (.ref a2), .val (.int (2 : Int32))] [])) _
        refine XS.goto X0.here hx rfl (pc0 := 29) (pc' := 9) rfl (hb hby own_d29_29) (by decide) (by decide) ?_
        show Steps p.tables e below (s₁.setTop (mkF m 9 #[.val (.ref a1), .val (.ref a2), .val (.int (2 : Int32))] [])) _
        refine XS.iloadN X0.here hx rfl (hb hby own_d29_9) rfl ?_
        show Steps p.tables e below (s₁.setTop (mkF m 10 #[.val (.ref a1), .val (.ref a2), .val (.int (2 : Int32))] [(.int (2 : Int32))])) _
        refine XS.aloadN X0.here hx rfl (hb hby own_d29_10) rfl rfl ?_
        show Steps p.tables e below (s₁.setTop (mkF m 11 #[.val (.ref a1), .val (.ref a2), .val (.int (2 : Int32))] [(.ref a1), (.int (2 : Int32))])) _
        refine X0.arraylength hx (by rw [e0]; exact Ar11.1) (State.isArrayOf_alike hZ.alike Ar11.2.1) (g := (mkF m 11 #[.val (.ref a1), .val (.ref a2), .val (.int (2 : Int32))] [(.ref a1), (.int (2 : Int32))])) rfl rfl (hb hby own_d29_11) _ ?_
        rw [len_of Sz11 Nn11]
        show Steps p.tables e below (s₁.setTop (mkF m 12 #[.val (.ref a1), .val (.ref a2), .val (.int (2 : Int32))] [(.int (2 : Int32)), (.int (2 : Int32))])) _
        refine XS.icmpYes X0.here hx rfl (pc0 := 12) (pc' := 32) rfl (hb hby own_d29_12) rfl (flt (by decide : ¬ ((2 : Int32) < (2 : Int32)))).2.1 (by decide) (by decide) ?_
        show Steps p.tables e below (s₁.setTop (mkF m 32 #[.val (.ref a1), .val (.ref a2), .val (.int (2 : Int32))] [])) _
        refine XS.iconst X0.here hx rfl (hb hby own_d29_32) ?_
        show Steps p.tables e below (s₁.setTop (mkF m 33 #[.val (.ref a1), .val (.ref a2), .val (.int (2 : Int32))] [(.int (1 : Int32))])) _
        exact retN X0 hx (t := .boolean) Bd.returns (by simp) (hb hby own_d29_33) hr
      · show own_vBB_Q29 Z a1 a2 k_a1 y0 y1 k_a2 u0 u1 h0 n0 _ s₁.heap _
        rw [e0]
        exact ⟨(by rw [own_vBB_f29, if_pos hc1, if_pos hc2]), N0, rfl⟩
    ·
      obtain ⟨fs, hr, hrun, hended, hW, hsame⟩ := X0.leave (hlocks := hlk) (v := some (.int (0 : Int32))) (fun h => by rw [Bd.returns] at h; cases h)
      refine ⟨_, _, k10 _ ?_, hrun, hended, _, _, rfl, ?_, ⟨_, rfl⟩, hW, hsame.mono (by decide) (by decide)⟩
      · show Steps p.tables e below (s₁.setTop (mkF m 21 #[.val (.ref a1), .val (.ref a2), .val (.int (1 : Int32))] [(.int u1), (.int y1)])) _
        refine XS.icmpNo X0.here hx rfl (hb hby own_d29_21) rfl (feq hc2).1 ?_
        show Steps p.tables e below (s₁.setTop (mkF m 24 #[.val (.ref a1), .val (.ref a2), .val (.int (1 : Int32))] [])) _
        refine XS.iconst X0.here hx rfl (hb hby own_d29_24) ?_
        show Steps p.tables e below (s₁.setTop (mkF m 25 #[.val (.ref a1), .val (.ref a2), .val (.int (1 : Int32))] [(.int (0 : Int32))])) _
        exact retN X0 hx (t := .boolean) Bd.returns (by simp) (hb hby own_d29_25) hr
      · show own_vBB_Q29 Z a1 a2 k_a1 y0 y1 k_a2 u0 u1 h0 n0 _ s₁.heap _
        rw [e0]
        exact ⟨(by rw [own_vBB_f29, if_pos hc1, if_neg hc2]), N0, rfl⟩
  ·
    obtain ⟨fs, hr, hrun, hended, hW, hsame⟩ := X0.leave (hlocks := hlk) (v := some (.int (0 : Int32))) (fun h => by rw [Bd.returns] at h; cases h)
    refine ⟨_, _, k6 _ ?_, hrun, hended, _, _, rfl, ?_, ⟨_, rfl⟩, hW, hsame.mono (by decide) (by decide)⟩
    · show Steps p.tables e below (s₁.setTop (mkF m 21 #[.val (.ref a1), .val (.ref a2), .val (.int (0 : Int32))] [(.int u0), (.int y0)])) _
      refine XS.icmpNo X0.here hx rfl (hb hby own_d29_21) rfl (feq hc1).1 ?_
      show Steps p.tables e below (s₁.setTop (mkF m 24 #[.val (.ref a1), .val (.ref a2), .val (.int (0 : Int32))] [])) _
      refine XS.iconst X0.here hx rfl (hb hby own_d29_24) ?_
      show Steps p.tables e below (s₁.setTop (mkF m 25 #[.val (.ref a1), .val (.ref a2), .val (.int (0 : Int32))] [(.int (0 : Int32))])) _
      exact retN X0 hx (t := .boolean) Bd.returns (by simp) (hb hby own_d29_25) hr
    · show own_vBB_Q29 Z a1 a2 k_a1 y0 y1 k_a2 u0 u1 h0 n0 _ s₁.heap _
      rw [e0]
      exact ⟨(by rw [own_vBB_f29, if_neg hc1]), N0, rfl⟩
-- body 28, variant AA
theorem own_d28_0 : decode jdk_42_method_66_code 0 = .ok (.aload_n 0, 1) := by decide +kernel
theorem own_d28_1 : decode jdk_42_method_66_code 1 = .ok (.aload_n 1, 1) := by decide +kernel
theorem own_d28_2 : decode jdk_42_method_66_code 2 = .ok (.if_acmp .ne 5, 3) := by decide +kernel
theorem own_d28_7 : decode jdk_42_method_66_code 7 = .ok (.aload_n 1, 1) := by decide +kernel
theorem own_d28_8 : decode jdk_42_method_66_code 8 = .ok (.instanceof 10, 3) := by decide +kernel
theorem own_d28_11 : decode jdk_42_method_66_code 11 = .ok (.ifCond .eq 43, 3) := by decide +kernel
theorem own_d28_14 : decode jdk_42_method_66_code 14 = .ok (.aload_n 1, 1) := by decide +kernel
theorem own_d28_15 : decode jdk_42_method_66_code 15 = .ok (.checkcast 10, 3) := by decide +kernel
theorem own_d28_18 : decode jdk_42_method_66_code 18 = .ok (.astore_n 2, 1) := by decide +kernel
theorem own_d28_19 : decode jdk_42_method_66_code 19 = .ok (.getstatic 38, 3) := by decide +kernel
theorem own_d28_22 : decode jdk_42_method_66_code 22 = .ok (.ifCond .eq 14, 3) := by decide +kernel
theorem own_d28_25 : decode jdk_42_method_66_code 25 = .ok (.aload_n 0, 1) := by decide +kernel
theorem own_d28_26 : decode jdk_42_method_66_code 26 = .ok (.getfield 15, 3) := by decide +kernel
theorem own_d28_29 : decode jdk_42_method_66_code 29 = .ok (.aload_n 2, 1) := by decide +kernel
theorem own_d28_30 : decode jdk_42_method_66_code 30 = .ok (.getfield 15, 3) := by decide +kernel
theorem own_d28_33 : decode jdk_42_method_66_code 33 = .ok (.if_icmp .ne 21, 3) := by decide +kernel
theorem own_d28_36 : decode jdk_42_method_66_code 36 = .ok (.aload_n 0, 1) := by decide +kernel
theorem own_d28_37 : decode jdk_42_method_66_code 37 = .ok (.getfield 9, 3) := by decide +kernel
theorem own_d28_40 : decode jdk_42_method_66_code 40 = .ok (.aload_n 2, 1) := by decide +kernel
theorem own_d28_41 : decode jdk_42_method_66_code 41 = .ok (.getfield 9, 3) := by decide +kernel
theorem own_d28_44 : decode jdk_42_method_66_code 44 = .ok (.invokestatic 541, 3) := by decide +kernel
theorem own_d28_47 : decode jdk_42_method_66_code 47 = .ok (.ifCond .eq 7, 3) := by decide +kernel
theorem own_d28_50 : decode jdk_42_method_66_code 50 = .ok (.iconst 1, 1) := by decide +kernel
theorem own_d28_51 : decode jdk_42_method_66_code 51 = .ok (.goto 4, 3) := by decide +kernel
theorem own_d28_54 : decode jdk_42_method_66_code 54 = .ok (.iconst 0, 1) := by decide +kernel
theorem own_d28_55 : decode jdk_42_method_66_code 55 = .ok (.ireturn, 1) := by decide +kernel
theorem own_vAA_ef28 (m : MethodId) (x0 : Addr) (x1 : Addr) : entryFrame m #[(.ref x0), (.ref x1)] 3 = mkF m 0 #[.val (.ref x0), .val (.ref x1), .unset] [] := by first | (simp [entryFrame, mkF, argsToLocals, Value.category]; done) | rfl
def own_vAA_f28 (y0 : Int32) (u0 : Int32) : Int32 := if (own_vAA_f29 y0 u0) = (0 : Int32) then (0 : Int32)
    else (1 : Int32)
def own_vAA_Q28 (Z : State) (a1 : Addr) (a2 : Addr) (w_value_a1 : Addr) (k_w_value_a1 : ClassId) (y0 : Int32) (w_value_a2 : Addr) (k_w_value_a2 : ClassId) (u0 : Int32) (w_COMPACT_STRINGS : Int32) (h0 : Heap) (n0 : Nat) (v : Option Value) (h : Heap) (L : List Loc) : Prop := v = some (.int (own_vAA_f28 y0 u0)) ∧ Fr n0 L ∧ h = h0
set_option maxRecDepth 65536 in
set_option maxHeartbeats 40000000 in
theorem own_vAA_rm28 (l : Launch) (Z : State) (a0 : Array Value) (hw : ∀ d ∈ tables_1, d.before a0 Z = true) (ws : List Jvm.Cond) (a1 : Addr) (a2 : Addr) (w_value_a1 : Addr) (k_w_value_a1 : ClassId) (y0 : Int32) (w_value_a2 : Addr) (k_w_value_a2 : ClassId) (u0 : Int32) (w_COMPACT_STRINGS : Int32) (h0 : Heap) (n0 : Nat) (Z0 : n0 ≤ h0.size) (O0 : Old Z n0 h0) (V_w_value_a1 : Arv Z h0 w_value_a1 k_w_value_a1 .byte (1 : Int32) [(.int y0)] (.int (0 : Int32))) (V_w_value_a2 : Arv Z h0 w_value_a2 k_w_value_a2 .byte (1 : Int32) [(.int u0)] (.int (0 : Int32))) (hne : a1 ≠ a2) (hcs : ¬ w_COMPACT_STRINGS = (0 : Int32)) (E_a2 : Exa Z h0 a2 "java/lang/String") (S_COMPACT_STRINGS : Sta Z Z.heap "java/lang/String" "COMPACT_STRINGS" "Z" (.int w_COMPACT_STRINGS)) (F_coder_a1 : Fld Z h0 a1 "java/lang/String" "coder" "B" (.int (0 : Int32))) (F_coder_a2 : Fld Z h0 a2 "java/lang/String" "coder" "B" (.int (0 : Int32))) (F_value_a1 : Fld Z h0 a1 "java/lang/String" "value" "[B" (.ref w_value_a1)) (F_value_a2 : Fld Z h0 a2 "java/lang/String" "value" "[B" (.ref w_value_a2)) :
    MetFree l (⟨"java/lang/String", "equals", "(Ljava/lang/Object;)Z"⟩ : MethodName) (head1 (Jvm.Cond.code (⟨"java/lang/String", "equals", "(Ljava/lang/Object;)Z"⟩ : MethodName) jdk_42_method_66_code 3 (some .boolean) :: ws) ({ frames := 1, cells := 0, slots := 0, locals := 14 } : Room)) (fun a U => a = #[(.ref a1), (.ref a2)] ∧ Z.Warmed39 U.vm ∧ U.heap = h0) (fun _ _ _ _ _ => True) (fun _ U o U' => ∃ v L, o = .returned v ∧ own_vAA_Q28 Z a1 a2 w_value_a1 k_w_value_a1 y0 w_value_a2 k_w_value_a2 u0 w_COMPACT_STRINGS h0 n0 v U'.heap L ∧ FrameEnd U o U' L ({ frames := 1, cells := 0, slots := 0, locals := 14 } : Room).cells ({ frames := 1, cells := 0, slots := 0, locals := 14 } : Room).slots) := by
  refine MetFree.of_bodySF (plainFor_of_name own_pn79) hisR ?_
  intro p e s m args below meth c s₁ Bd hml0 hP hK
  obtain ⟨rfl, hZ, hh⟩ := hP
  have hx := Bd.exec
  have hby := Bd.bytes
  have hml : c.maxLocals = 3 := hml0
  have hown : s.vm.findClass "java/lang/String" = some m.cls := findClass_of_methodNamed Bd.named
  have hnm := (name_of_methodNamed Bd.named Bd.method).1
  have X0 : Stand p l e ({ frames := 1, cells := 0, slots := 0, locals := 14 } : Room) s m #[(.ref a1), (.ref a2)] below meth c s₁ [] 0 0 := Stand.of_body Bd
  have hS0 : s.Since s.vm 0 := (State.WarmedH.refl s).since 0
  have hk0 : 0 ≤ h0.size := Nat.zero_le _
  have hlk := Bd.notSynchronized
  have e0 : s₁.heap = h0 := by rw [← hh, Bd.state]; rfl
  have N0 := Fr.nil n0
  have pre0 : ∀ t, Steps p.tables e below (s₁.setTop (mkF m 0 #[.val (.ref a1), .val (.ref a2), .unset] [])) t → Steps p.tables e below (s₁.setTop (entryFrame m #[(.ref a1), (.ref a2)] 3)) t := fun t k => castTop (own_vAA_ef28 m a1 a2) k
  obtain ⟨T1, X1, e1, st1⟩ := instY X0 hx hZ hown (hw _ (List.mem_of_getElem? (i := 135) rfl)) e0 (Ins.self E_a2) (g := (mkF m 8 #[.val (.ref a1), .val (.ref a2), .unset] [(.ref a2)])) rfl rfl (hb hby own_d28_8)
  obtain ⟨T2, X2, e2, st2⟩ := castY X1 hx hZ hown (hw _ (List.mem_of_getElem? (i := 135) rfl)) e1 (Ins.self E_a2) (g := (mkF m 15 #[.val (.ref a1), .val (.ref a2), .unset] [(.ref a2)])) rfl rfl (hb hby own_d28_15)
  obtain ⟨T3, X3, e3, st3⟩ := getS2 X2 hx hZ hown (host := "") (Or.inl (hw _ (List.mem_of_getElem? (i := 27) rfl))) Via.refl e2 (S_COMPACT_STRINGS.ext O0.2) (g := (mkF m 19 #[.val (.ref a1), .val (.ref a2), .val (.ref a2)] [])) rfl (hb hby own_d28_19)
  obtain ⟨T4, X4, e4, st4⟩ := getF X3 hx hZ hown (host := "") (Or.inl (hw _ (List.mem_of_getElem? (i := 39) rfl))) Via.refl e3 F_coder_a1 (g := (mkF m 26 #[.val (.ref a1), .val (.ref a2), .val (.ref a2)] [(.ref a1)])) rfl rfl (hb hby own_d28_26)
  obtain ⟨T5, X5, e5, st5⟩ := getF X4 hx hZ hown (host := "") (Or.inl (hw _ (List.mem_of_getElem? (i := 39) rfl))) Via.refl e4 F_coder_a2 (g := (mkF m 30 #[.val (.ref a1), .val (.ref a2), .val (.ref a2)] [(.ref a2), (.int (0 : Int32))])) rfl rfl (hb hby own_d28_30)
  obtain ⟨T6, X6, e6, st6⟩ := getF X5 hx hZ hown (host := "") (Or.inl (hw _ (List.mem_of_getElem? (i := 41) rfl))) Via.refl e5 F_value_a1 (g := (mkF m 37 #[.val (.ref a1), .val (.ref a2), .val (.ref a2)] [(.ref a1)])) rfl rfl (hb hby own_d28_37)
  obtain ⟨T7, X7, e7, st7⟩ := getF X6 hx hZ hown (host := "") (Or.inl (hw _ (List.mem_of_getElem? (i := 41) rfl))) Via.refl e6 F_value_a2 (g := (mkF m 41 #[.val (.ref a1), .val (.ref a2), .val (.ref a2)] [(.ref a2), (.ref w_value_a1)])) rfl rfl (hb hby own_d28_41)
  obtain ⟨v8, _, ⟨T8, L8, k8, n8⟩, -, X8, ⟨Lc8, hQ8, l8, y8, z8⟩, st8⟩ := Jvm.LawKit.callS X7 hx (y := (⟨"java/lang/StringLatin1", "equals", "([B[B)Z"⟩ : MethodName)) hown (mvT hZ (hw _ (List.mem_of_getElem? (i := 136) rfl))) (mvT hZ (hw _ (List.mem_of_getElem? (i := 137) rfl))) (mvT hZ (hw _ (List.mem_of_getElem? (i := 90) rfl))) (mvT hZ (hw _ (List.mem_of_getElem? (i := 138) rfl))) (by decide) (backOf (W := 0) (own_vAA_rm29 l Z a0 hw [] w_value_a1 w_value_a2 k_w_value_a1 y0 k_w_value_a2 u0 h0 n0 Z0 V_w_value_a1 V_w_value_a2) hZ (hw _ (List.mem_of_getElem? (i := 138) rfl)) (hw _ (List.mem_of_getElem? (i := 90) rfl)) (by decide) (by decide)) (g := (mkF m 44 #[.val (.ref a1), .val (.ref a2), .val (.ref a2)] [(.ref w_value_a2), (.ref w_value_a1)])) rfl (by rw [hml]; rfl) (argsL := [(.ref w_value_a1), (.ref w_value_a2)]) (rest := []) (lenOf own_pd358 rfl) rfl (by show 2 * 0 + _ ≤ _; exact Nat.le_of_eq rfl) (hb hby own_d28_44) (fun _ _ => ⟨rfl, e7, (by decide : 0 + 0 ≤ _), (by decide : 0 + 0 ≤ _)⟩)
  dsimp only [Pt.U, Pt.locs, Pt.cells, Pt.slots] at X8 l8 y8 z8 st8 hQ8
  subst l8 y8 z8
  obtain ⟨rfl, N8q, e8⟩ := hQ8
  have N9 := Fr.app N0 N8q
  have k10 : ∀ t, Steps p.tables e below (T8.setTop (mkF m 47 #[.val (.ref a1), .val (.ref a2), .val (.ref a2)] [(.int (own_vAA_f29 y0 u0))])) t → Steps p.tables e below (s₁.setTop (entryFrame m #[(.ref a1), (.ref a2)] 3)) t := by
    intro t kt
    refine pre0 t ?_
    show Steps p.tables e below (s₁.setTop (mkF m 0 #[.val (.ref a1), .val (.ref a2), .unset] [])) _
    refine XS.aloadN X0.here hx rfl (hb hby own_d28_0) rfl rfl ?_
    show Steps p.tables e below (s₁.setTop (mkF m 1 #[.val (.ref a1), .val (.ref a2), .unset] [(.ref a1)])) _
    refine XS.aloadN X0.here hx rfl (hb hby own_d28_1) rfl rfl ?_
    show Steps p.tables e below (s₁.setTop (mkF m 2 #[.val (.ref a1), .val (.ref a2), .unset] [(.ref a2), (.ref a1)])) _
    refine Jvm.RoadKit.acmp (g := (mkF m 2 #[.val (.ref a1), .val (.ref a2), .unset] [(.ref a2), (.ref a1)])) X0 hx rfl rfl rfl (pc0 := 2) (pc' := 7) (same := false) rfl (hb hby own_d28_2) rfl (decide_eq_false fun q => hne (Value.ref.inj q)) (by decide) (by decide) ?_
    show Steps p.tables e below (s₁.setTop (mkF m 7 #[.val (.ref a1), .val (.ref a2), .unset] [])) _
    refine XS.aloadN X0.here hx rfl (hb hby own_d28_7) rfl rfl ?_
    show Steps p.tables e below (s₁.setTop (mkF m 8 #[.val (.ref a1), .val (.ref a2), .unset] [(.ref a2)])) _
    refine st1 _ ?_
    show Steps p.tables e below (T1.setTop (mkF m 11 #[.val (.ref a1), .val (.ref a2), .unset] [(.int (1 : Int32))])) _
    refine XS.ifNo X1.here hx rfl (hb hby own_d28_11) rfl ((if0 _ _).trans (feq (by decide : ¬ ((1 : Int32) = (0 : Int32)))).1) ?_
    show Steps p.tables e below (T1.setTop (mkF m 14 #[.val (.ref a1), .val (.ref a2), .unset] [])) _
    refine XS.aloadN X1.here hx rfl (hb hby own_d28_14) rfl rfl ?_
    show Steps p.tables e below (T1.setTop (mkF m 15 #[.val (.ref a1), .val (.ref a2), .unset] [(.ref a2)])) _
    refine st2 _ ?_
    show Steps p.tables e below (T2.setTop (mkF m 18 #[.val (.ref a1), .val (.ref a2), .unset] [(.ref a2)])) _
    refine XS.astoreN X2.here hx rfl (hb hby own_d28_18) rfl rfl (l' := #[.val (.ref a1), .val (.ref a2), .val (.ref a2)]) rfl ?_
    show Steps p.tables e below (T2.setTop (mkF m 19 #[.val (.ref a1), .val (.ref a2), .val (.ref a2)] [])) _
    refine st3 _ ?_
    show Steps p.tables e below (T3.setTop (mkF m 22 #[.val (.ref a1), .val (.ref a2), .val (.ref a2)] [(.int w_COMPACT_STRINGS)])) _
    refine XS.ifNo X3.here hx rfl (hb hby own_d28_22) rfl ((if0 _ _).trans (feq hcs).1) ?_
    show Steps p.tables e below (T3.setTop (mkF m 25 #[.val (.ref a1), .val (.ref a2), .val (.ref a2)] [])) _
    refine XS.aloadN X3.here hx rfl (hb hby own_d28_25) rfl rfl ?_
    show Steps p.tables e below (T3.setTop (mkF m 26 #[.val (.ref a1), .val (.ref a2), .val (.ref a2)] [(.ref a1)])) _
    refine st4 _ ?_
    show Steps p.tables e below (T4.setTop (mkF m 29 #[.val (.ref a1), .val (.ref a2), .val (.ref a2)] [(.int (0 : Int32))])) _
    refine XS.aloadN X4.here hx rfl (hb hby own_d28_29) rfl rfl ?_
    show Steps p.tables e below (T4.setTop (mkF m 30 #[.val (.ref a1), .val (.ref a2), .val (.ref a2)] [(.ref a2), (.int (0 : Int32))])) _
    refine st5 _ ?_
    show Steps p.tables e below (T5.setTop (mkF m 33 #[.val (.ref a1), .val (.ref a2), .val (.ref a2)] [(.int (0 : Int32)), (.int (0 : Int32))])) _
    refine XS.icmpNo X5.here hx rfl (hb hby own_d28_33) rfl (teq (by decide : (0 : Int32) = (0 : Int32))).2 ?_
    show Steps p.tables e below (T5.setTop (mkF m 36 #[.val (.ref a1), .val (.ref a2), .val (.ref a2)] [])) _
    refine XS.aloadN X5.here hx rfl (hb hby own_d28_36) rfl rfl ?_
    show Steps p.tables e below (T5.setTop (mkF m 37 #[.val (.ref a1), .val (.ref a2), .val (.ref a2)] [(.ref a1)])) _
    refine st6 _ ?_
    show Steps p.tables e below (T6.setTop (mkF m 40 #[.val (.ref a1), .val (.ref a2), .val (.ref a2)] [(.ref w_value_a1)])) _
    refine XS.aloadN X6.here hx rfl (hb hby own_d28_40) rfl rfl ?_
    show Steps p.tables e below (T6.setTop (mkF m 41 #[.val (.ref a1), .val (.ref a2), .val (.ref a2)] [(.ref a2), (.ref w_value_a1)])) _
    refine st7 _ ?_
    show Steps p.tables e below (T7.setTop (mkF m 44 #[.val (.ref a1), .val (.ref a2), .val (.ref a2)] [(.ref w_value_a2), (.ref w_value_a1)])) _
    refine st8 _ ?_
    exact kt
  by_cases hc1 : (own_vAA_f29 y0 u0) = (0 : Int32)
  ·
    obtain ⟨fs, hr, hrun, hended, hW, hsame⟩ := X8.leave (hlocks := hlk) (v := some (.int (0 : Int32))) (fun h => by rw [Bd.returns] at h; cases h)
    refine ⟨_, _, k10 _ ?_, hrun, hended, _, _, rfl, ?_, ⟨_, rfl⟩, hW, hsame.mono (by decide) (by decide)⟩
    · show Steps p.tables e below (T8.setTop (mkF m 47 #[.val (.ref a1), .val (.ref a2), .val (.ref a2)] [(.int (own_vAA_f29 y0 u0))])) _
      refine XS.ifYes X8.here hx rfl (pc0 := 47) (pc' := 54) rfl (hb hby own_d28_47) rfl ((if0 _ _).trans (teq hc1).1) (by decide) (by decide) ?_
      show Steps p.tables e below (T8.setTop (mkF m 54 #[.val (.ref a1), .val (.ref a2), .val (.ref a2)] [])) _
      refine XS.iconst X8.here hx rfl (hb hby own_d28_54) ?_
      show Steps p.tables e below (T8.setTop (mkF m 55 #[.val (.ref a1), .val (.ref a2), .val (.ref a2)] [(.int (0 : Int32))])) _
      exact retN X8 hx (t := .boolean) Bd.returns (by simp) (hb hby own_d28_55) hr
    · show own_vAA_Q28 Z a1 a2 w_value_a1 k_w_value_a1 y0 w_value_a2 k_w_value_a2 u0 w_COMPACT_STRINGS h0 n0 _ T8.heap _
      rw [e8]
      exact ⟨(by rw [own_vAA_f28, if_pos hc1]), N9, rfl⟩
  ·
    obtain ⟨fs, hr, hrun, hended, hW, hsame⟩ := X8.leave (hlocks := hlk) (v := some (.int (1 : Int32))) (fun h => by rw [Bd.returns] at h; cases h)
    refine ⟨_, _, k10 _ ?_, hrun, hended, _, _, rfl, ?_, ⟨_, rfl⟩, hW, hsame.mono (by decide) (by decide)⟩
    · show Steps p.tables e below (T8.setTop (mkF m 47 #[.val (.ref a1), .val (.ref a2), .val (.ref a2)] [(.int (own_vAA_f29 y0 u0))])) _
      refine XS.ifNo X8.here hx rfl (hb hby own_d28_47) rfl ((if0 _ _).trans (feq hc1).1) ?_
      show Steps p.tables e below (T8.setTop (mkF m 50 #[.val (.ref a1), .val (.ref a2), .val (.ref a2)] [])) _
      refine XS.iconst X8.here hx rfl (hb hby own_d28_50) ?_
      show Steps p.tables e below (T8.setTop (mkF m 51 #[.val (.ref a1), .val (.ref a2), .val (.ref a2)] [(.int (1 : Int32))])) _
      refine XS.goto X8.here hx rfl (pc0 := 51) (pc' := 55) rfl (hb hby own_d28_51) (by decide) (by decide) ?_
      show Steps p.tables e below (T8.setTop (mkF m 55 #[.val (.ref a1), .val (.ref a2), .val (.ref a2)] [(.int (1 : Int32))])) _
      exact retN X8 hx (t := .boolean) Bd.returns (by simp) (hb hby own_d28_55) hr
    · show own_vAA_Q28 Z a1 a2 w_value_a1 k_w_value_a1 y0 w_value_a2 k_w_value_a2 u0 w_COMPACT_STRINGS h0 n0 _ T8.heap _
      rw [e8]
      exact ⟨(by rw [own_vAA_f28, if_neg hc1]), N9, rfl⟩
-- body 28, variant AB
theorem own_vAB_ef28 (m : MethodId) (x0 : Addr) (x1 : Addr) : entryFrame m #[(.ref x0), (.ref x1)] 3 = mkF m 0 #[.val (.ref x0), .val (.ref x1), .unset] [] := by first | (simp [entryFrame, mkF, argsToLocals, Value.category]; done) | rfl
def own_vAB_f28 : Int32 := (0 : Int32)
def own_vAB_Q28 (Z : State) (a1 : Addr) (a2 : Addr) (w_value_a1 : Addr) (k_w_value_a1 : ClassId) (y0 : Int32) (w_value_a2 : Addr) (k_w_value_a2 : ClassId) (u0 : Int32) (u1 : Int32) (w_COMPACT_STRINGS : Int32) (h0 : Heap) (n0 : Nat) (v : Option Value) (h : Heap) (L : List Loc) : Prop := v = some (.int (own_vAB_f28)) ∧ Fr n0 L ∧ h = h0
set_option maxRecDepth 65536 in
set_option maxHeartbeats 40000000 in
theorem own_vAB_rm28 (l : Launch) (Z : State) (a0 : Array Value) (hw : ∀ d ∈ tables_1, d.before a0 Z = true) (ws : List Jvm.Cond) (a1 : Addr) (a2 : Addr) (w_value_a1 : Addr) (k_w_value_a1 : ClassId) (y0 : Int32) (w_value_a2 : Addr) (k_w_value_a2 : ClassId) (u0 : Int32) (u1 : Int32) (w_COMPACT_STRINGS : Int32) (h0 : Heap) (n0 : Nat) (Z0 : n0 ≤ h0.size) (O0 : Old Z n0 h0) (V_w_value_a1 : Arv Z h0 w_value_a1 k_w_value_a1 .byte (1 : Int32) [(.int y0)] (.int (0 : Int32))) (V_w_value_a2 : Arv Z h0 w_value_a2 k_w_value_a2 .byte (2 : Int32) [(.int u0), (.int u1)] (.int (0 : Int32))) (hne : a1 ≠ a2) (hcs : ¬ w_COMPACT_STRINGS = (0 : Int32)) (E_a2 : Exa Z h0 a2 "java/lang/String") (S_COMPACT_STRINGS : Sta Z Z.heap "java/lang/String" "COMPACT_STRINGS" "Z" (.int w_COMPACT_STRINGS)) (F_coder_a1 : Fld Z h0 a1 "java/lang/String" "coder" "B" (.int (0 : Int32))) (F_coder_a2 : Fld Z h0 a2 "java/lang/String" "coder" "B" (.int (0 : Int32))) (F_value_a1 : Fld Z h0 a1 "java/lang/String" "value" "[B" (.ref w_value_a1)) (F_value_a2 : Fld Z h0 a2 "java/lang/String" "value" "[B" (.ref w_value_a2)) :
    MetFree l (⟨"java/lang/String", "equals", "(Ljava/lang/Object;)Z"⟩ : MethodName) (head1 (Jvm.Cond.code (⟨"java/lang/String", "equals", "(Ljava/lang/Object;)Z"⟩ : MethodName) jdk_42_method_66_code 3 (some .boolean) :: ws) ({ frames := 1, cells := 0, slots := 0, locals := 14 } : Room)) (fun a U => a = #[(.ref a1), (.ref a2)] ∧ Z.Warmed39 U.vm ∧ U.heap = h0) (fun _ _ _ _ _ => True) (fun _ U o U' => ∃ v L, o = .returned v ∧ own_vAB_Q28 Z a1 a2 w_value_a1 k_w_value_a1 y0 w_value_a2 k_w_value_a2 u0 u1 w_COMPACT_STRINGS h0 n0 v U'.heap L ∧ FrameEnd U o U' L ({ frames := 1, cells := 0, slots := 0, locals := 14 } : Room).cells ({ frames := 1, cells := 0, slots := 0, locals := 14 } : Room).slots) := by
  refine MetFree.of_bodySF (plainFor_of_name own_pn79) hisR ?_
  intro p e s m args below meth c s₁ Bd hml0 hP hK
  obtain ⟨rfl, hZ, hh⟩ := hP
  have hx := Bd.exec
  have hby := Bd.bytes
  have hml : c.maxLocals = 3 := hml0
  have hown : s.vm.findClass "java/lang/String" = some m.cls := findClass_of_methodNamed Bd.named
  have hnm := (name_of_methodNamed Bd.named Bd.method).1
  have X0 : Stand p l e ({ frames := 1, cells := 0, slots := 0, locals := 14 } : Room) s m #[(.ref a1), (.ref a2)] below meth c s₁ [] 0 0 := Stand.of_body Bd
  have hS0 : s.Since s.vm 0 := (State.WarmedH.refl s).since 0
  have hk0 : 0 ≤ h0.size := Nat.zero_le _
  have hlk := Bd.notSynchronized
  have e0 : s₁.heap = h0 := by rw [← hh, Bd.state]; rfl
  have N0 := Fr.nil n0
  have pre0 : ∀ t, Steps p.tables e below (s₁.setTop (mkF m 0 #[.val (.ref a1), .val (.ref a2), .unset] [])) t → Steps p.tables e below (s₁.setTop (entryFrame m #[(.ref a1), (.ref a2)] 3)) t := fun t k => castTop (own_vAB_ef28 m a1 a2) k
  obtain ⟨T1, X1, e1, st1⟩ := instY X0 hx hZ hown (hw _ (List.mem_of_getElem? (i := 135) rfl)) e0 (Ins.self E_a2) (g := (mkF m 8 #[.val (.ref a1), .val (.ref a2), .unset] [(.ref a2)])) rfl rfl (hb hby own_d28_8)
  obtain ⟨T2, X2, e2, st2⟩ := castY X1 hx hZ hown (hw _ (List.mem_of_getElem? (i := 135) rfl)) e1 (Ins.self E_a2) (g := (mkF m 15 #[.val (.ref a1), .val (.ref a2), .unset] [(.ref a2)])) rfl rfl (hb hby own_d28_15)
  obtain ⟨T3, X3, e3, st3⟩ := getS2 X2 hx hZ hown (host := "") (Or.inl (hw _ (List.mem_of_getElem? (i := 27) rfl))) Via.refl e2 (S_COMPACT_STRINGS.ext O0.2) (g := (mkF m 19 #[.val (.ref a1), .val (.ref a2), .val (.ref a2)] [])) rfl (hb hby own_d28_19)
  obtain ⟨T4, X4, e4, st4⟩ := getF X3 hx hZ hown (host := "") (Or.inl (hw _ (List.mem_of_getElem? (i := 39) rfl))) Via.refl e3 F_coder_a1 (g := (mkF m 26 #[.val (.ref a1), .val (.ref a2), .val (.ref a2)] [(.ref a1)])) rfl rfl (hb hby own_d28_26)
  obtain ⟨T5, X5, e5, st5⟩ := getF X4 hx hZ hown (host := "") (Or.inl (hw _ (List.mem_of_getElem? (i := 39) rfl))) Via.refl e4 F_coder_a2 (g := (mkF m 30 #[.val (.ref a1), .val (.ref a2), .val (.ref a2)] [(.ref a2), (.int (0 : Int32))])) rfl rfl (hb hby own_d28_30)
  obtain ⟨T6, X6, e6, st6⟩ := getF X5 hx hZ hown (host := "") (Or.inl (hw _ (List.mem_of_getElem? (i := 41) rfl))) Via.refl e5 F_value_a1 (g := (mkF m 37 #[.val (.ref a1), .val (.ref a2), .val (.ref a2)] [(.ref a1)])) rfl rfl (hb hby own_d28_37)
  obtain ⟨T7, X7, e7, st7⟩ := getF X6 hx hZ hown (host := "") (Or.inl (hw _ (List.mem_of_getElem? (i := 41) rfl))) Via.refl e6 F_value_a2 (g := (mkF m 41 #[.val (.ref a1), .val (.ref a2), .val (.ref a2)] [(.ref a2), (.ref w_value_a1)])) rfl rfl (hb hby own_d28_41)
  obtain ⟨v8, _, ⟨T8, L8, k8, n8⟩, -, X8, ⟨Lc8, hQ8, l8, y8, z8⟩, st8⟩ := Jvm.LawKit.callS X7 hx (y := (⟨"java/lang/StringLatin1", "equals", "([B[B)Z"⟩ : MethodName)) hown (mvT hZ (hw _ (List.mem_of_getElem? (i := 136) rfl))) (mvT hZ (hw _ (List.mem_of_getElem? (i := 137) rfl))) (mvT hZ (hw _ (List.mem_of_getElem? (i := 90) rfl))) (mvT hZ (hw _ (List.mem_of_getElem? (i := 138) rfl))) (by decide) (backOf (W := 0) (own_vAB_rm29 l Z a0 hw [] w_value_a1 w_value_a2 k_w_value_a1 y0 k_w_value_a2 u0 u1 h0 n0 Z0 V_w_value_a1 V_w_value_a2) hZ (hw _ (List.mem_of_getElem? (i := 138) rfl)) (hw _ (List.mem_of_getElem? (i := 90) rfl)) (by decide) (by decide)) (g := (mkF m 44 #[.val (.ref a1), .val (.ref a2), .val (.ref a2)] [(.ref w_value_a2), (.ref w_value_a1)])) rfl (by rw [hml]; rfl) (argsL := [(.ref w_value_a1), (.ref w_value_a2)]) (rest := []) (lenOf own_pd358 rfl) rfl (by show 2 * 0 + _ ≤ _; exact Nat.le_of_eq rfl) (hb hby own_d28_44) (fun _ _ => ⟨rfl, e7, (by decide : 0 + 0 ≤ _), (by decide : 0 + 0 ≤ _)⟩)
  dsimp only [Pt.U, Pt.locs, Pt.cells, Pt.slots] at X8 l8 y8 z8 st8 hQ8
  subst l8 y8 z8
  obtain ⟨hv8, N8q, e8⟩ := hQ8
  have N9 := Fr.app N0 N8q
  rw [show (own_vAB_f29) = (0 : Int32) from by first | rfl | decide | simp [own_vAB_f29]] at hv8
  subst hv8
  obtain ⟨fs, hr, hrun, hended, hW, hsame⟩ := X8.leave (hlocks := hlk) (v := some (.int (0 : Int32))) (fun h => by rw [Bd.returns] at h; cases h)
  refine ⟨_, _, pre0 _ ?_, hrun, hended, _, _, rfl, ?_, ⟨_, rfl⟩, hW, hsame.mono (by decide) (by decide)⟩
  · show Steps p.tables e below (s₁.setTop (mkF m 0 #[.val (.ref a1), .val (.ref a2), .unset] [])) _
    refine XS.aloadN X0.here hx rfl (hb hby own_d28_0) rfl rfl ?_
    show Steps p.tables e below (s₁.setTop (mkF m 1 #[.val (.ref a1), .val (.ref a2), .unset] [(.ref a1)])) _
    refine XS.aloadN X0.here hx rfl (hb hby own_d28_1) rfl rfl ?_
    show Steps p.tables e below (s₁.setTop (mkF m 2 #[.val (.ref a1), .val (.ref a2), .unset] [(.ref a2), (.ref a1)])) _
    refine Jvm.RoadKit.acmp (g := (mkF m 2 #[.val (.ref a1), .val (.ref a2), .unset] [(.ref a2), (.ref a1)])) X0 hx rfl rfl rfl (pc0 := 2) (pc' := 7) (same := false) rfl (hb hby own_d28_2) rfl (decide_eq_false fun q => hne (Value.ref.inj q)) (by decide) (by decide) ?_
    show Steps p.tables e below (s₁.setTop (mkF m 7 #[.val (.ref a1), .val (.ref a2), .unset] [])) _
    refine XS.aloadN X0.here hx rfl (hb hby own_d28_7) rfl rfl ?_
    show Steps p.tables e below (s₁.setTop (mkF m 8 #[.val (.ref a1), .val (.ref a2), .unset] [(.ref a2)])) _
    refine st1 _ ?_
    show Steps p.tables e below (T1.setTop (mkF m 11 #[.val (.ref a1), .val (.ref a2), .unset] [(.int (1 : Int32))])) _
    refine XS.ifNo X1.here hx rfl (hb hby own_d28_11) rfl ((if0 _ _).trans (feq (by decide : ¬ ((1 : Int32) = (0 : Int32)))).1) ?_
    show Steps p.tables e below (T1.setTop (mkF m 14 #[.val (.ref a1), .val (.ref a2), .unset] [])) _
    refine XS.aloadN X1.here hx rfl (hb hby own_d28_14) rfl rfl ?_
    show Steps p.tables e below (T1.setTop (mkF m 15 #[.val (.ref a1), .val (.ref a2), .unset] [(.ref a2)])) _
    refine st2 _ ?_
    show Steps p.tables e below (T2.setTop (mkF m 18 #[.val (.ref a1), .val (.ref a2), .unset] [(.ref a2)])) _
    refine XS.astoreN X2.here hx rfl (hb hby own_d28_18) rfl rfl (l' := #[.val (.ref a1), .val (.ref a2), .val (.ref a2)]) rfl ?_
    show Steps p.tables e below (T2.setTop (mkF m 19 #[.val (.ref a1), .val (.ref a2), .val (.ref a2)] [])) _
    refine st3 _ ?_
    show Steps p.tables e below (T3.setTop (mkF m 22 #[.val (.ref a1), .val (.ref a2), .val (.ref a2)] [(.int w_COMPACT_STRINGS)])) _
    refine XS.ifNo X3.here hx rfl (hb hby own_d28_22) rfl ((if0 _ _).trans (feq hcs).1) ?_
    show Steps p.tables e below (T3.setTop (mkF m 25 #[.val (.ref a1), .val (.ref a2), .val (.ref a2)] [])) _
    refine XS.aloadN X3.here hx rfl (hb hby own_d28_25) rfl rfl ?_
    show Steps p.tables e below (T3.setTop (mkF m 26 #[.val (.ref a1), .val (.ref a2), .val (.ref a2)] [(.ref a1)])) _
    refine st4 _ ?_
    show Steps p.tables e below (T4.setTop (mkF m 29 #[.val (.ref a1), .val (.ref a2), .val (.ref a2)] [(.int (0 : Int32))])) _
    refine XS.aloadN X4.here hx rfl (hb hby own_d28_29) rfl rfl ?_
    show Steps p.tables e below (T4.setTop (mkF m 30 #[.val (.ref a1), .val (.ref a2), .val (.ref a2)] [(.ref a2), (.int (0 : Int32))])) _
    refine st5 _ ?_
    show Steps p.tables e below (T5.setTop (mkF m 33 #[.val (.ref a1), .val (.ref a2), .val (.ref a2)] [(.int (0 : Int32)), (.int (0 : Int32))])) _
    refine XS.icmpNo X5.here hx rfl (hb hby own_d28_33) rfl (teq (by decide : (0 : Int32) = (0 : Int32))).2 ?_
    show Steps p.tables e below (T5.setTop (mkF m 36 #[.val (.ref a1), .val (.ref a2), .val (.ref a2)] [])) _
    refine XS.aloadN X5.here hx rfl (hb hby own_d28_36) rfl rfl ?_
    show Steps p.tables e below (T5.setTop (mkF m 37 #[.val (.ref a1), .val (.ref a2), .val (.ref a2)] [(.ref a1)])) _
    refine st6 _ ?_
    show Steps p.tables e below (T6.setTop (mkF m 40 #[.val (.ref a1), .val (.ref a2), .val (.ref a2)] [(.ref w_value_a1)])) _
    refine XS.aloadN X6.here hx rfl (hb hby own_d28_40) rfl rfl ?_
    show Steps p.tables e below (T6.setTop (mkF m 41 #[.val (.ref a1), .val (.ref a2), .val (.ref a2)] [(.ref a2), (.ref w_value_a1)])) _
    refine st7 _ ?_
    show Steps p.tables e below (T7.setTop (mkF m 44 #[.val (.ref a1), .val (.ref a2), .val (.ref a2)] [(.ref w_value_a2), (.ref w_value_a1)])) _
    refine st8 _ ?_
    show Steps p.tables e below (T8.setTop (mkF m 47 #[.val (.ref a1), .val (.ref a2), .val (.ref a2)] [(.int (0 : Int32))])) _
    refine XS.ifYes X8.here hx rfl (pc0 := 47) (pc' := 54) rfl (hb hby own_d28_47) rfl ((if0 _ _).trans (teq (by decide : (0 : Int32) = (0 : Int32))).1) (by decide) (by decide) ?_
    show Steps p.tables e below (T8.setTop (mkF m 54 #[.val (.ref a1), .val (.ref a2), .val (.ref a2)] [])) _
    refine XS.iconst X8.here hx rfl (hb hby own_d28_54) ?_
    show Steps p.tables e below (T8.setTop (mkF m 55 #[.val (.ref a1), .val (.ref a2), .val (.ref a2)] [(.int (0 : Int32))])) _
    exact retN X8 hx (t := .boolean) Bd.returns (by simp) (hb hby own_d28_55) hr
  · show own_vAB_Q28 Z a1 a2 w_value_a1 k_w_value_a1 y0 w_value_a2 k_w_value_a2 u0 u1 w_COMPACT_STRINGS h0 n0 _ T8.heap _
    rw [e8]
    exact ⟨(by rw [own_vAB_f28]), N9, rfl⟩
-- body 28, variant BA
theorem own_vBA_ef28 (m : MethodId) (x0 : Addr) (x1 : Addr) : entryFrame m #[(.ref x0), (.ref x1)] 3 = mkF m 0 #[.val (.ref x0), .val (.ref x1), .unset] [] := by first | (simp [entryFrame, mkF, argsToLocals, Value.category]; done) | rfl
def own_vBA_f28 : Int32 := (0 : Int32)
def own_vBA_Q28 (Z : State) (a1 : Addr) (a2 : Addr) (w_value_a1 : Addr) (k_w_value_a1 : ClassId) (y0 : Int32) (y1 : Int32) (w_value_a2 : Addr) (k_w_value_a2 : ClassId) (u0 : Int32) (w_COMPACT_STRINGS : Int32) (h0 : Heap) (n0 : Nat) (v : Option Value) (h : Heap) (L : List Loc) : Prop := v = some (.int (own_vBA_f28)) ∧ Fr n0 L ∧ h = h0
set_option maxRecDepth 65536 in
set_option maxHeartbeats 40000000 in
theorem own_vBA_rm28 (l : Launch) (Z : State) (a0 : Array Value) (hw : ∀ d ∈ tables_1, d.before a0 Z = true) (ws : List Jvm.Cond) (a1 : Addr) (a2 : Addr) (w_value_a1 : Addr) (k_w_value_a1 : ClassId) (y0 : Int32) (y1 : Int32) (w_value_a2 : Addr) (k_w_value_a2 : ClassId) (u0 : Int32) (w_COMPACT_STRINGS : Int32) (h0 : Heap) (n0 : Nat) (Z0 : n0 ≤ h0.size) (O0 : Old Z n0 h0) (V_w_value_a1 : Arv Z h0 w_value_a1 k_w_value_a1 .byte (2 : Int32) [(.int y0), (.int y1)] (.int (0 : Int32))) (V_w_value_a2 : Arv Z h0 w_value_a2 k_w_value_a2 .byte (1 : Int32) [(.int u0)] (.int (0 : Int32))) (hne : a1 ≠ a2) (hcs : ¬ w_COMPACT_STRINGS = (0 : Int32)) (E_a2 : Exa Z h0 a2 "java/lang/String") (S_COMPACT_STRINGS : Sta Z Z.heap "java/lang/String" "COMPACT_STRINGS" "Z" (.int w_COMPACT_STRINGS)) (F_coder_a1 : Fld Z h0 a1 "java/lang/String" "coder" "B" (.int (0 : Int32))) (F_coder_a2 : Fld Z h0 a2 "java/lang/String" "coder" "B" (.int (0 : Int32))) (F_value_a1 : Fld Z h0 a1 "java/lang/String" "value" "[B" (.ref w_value_a1)) (F_value_a2 : Fld Z h0 a2 "java/lang/String" "value" "[B" (.ref w_value_a2)) :
    MetFree l (⟨"java/lang/String", "equals", "(Ljava/lang/Object;)Z"⟩ : MethodName) (head1 (Jvm.Cond.code (⟨"java/lang/String", "equals", "(Ljava/lang/Object;)Z"⟩ : MethodName) jdk_42_method_66_code 3 (some .boolean) :: ws) ({ frames := 1, cells := 0, slots := 0, locals := 14 } : Room)) (fun a U => a = #[(.ref a1), (.ref a2)] ∧ Z.Warmed39 U.vm ∧ U.heap = h0) (fun _ _ _ _ _ => True) (fun _ U o U' => ∃ v L, o = .returned v ∧ own_vBA_Q28 Z a1 a2 w_value_a1 k_w_value_a1 y0 y1 w_value_a2 k_w_value_a2 u0 w_COMPACT_STRINGS h0 n0 v U'.heap L ∧ FrameEnd U o U' L ({ frames := 1, cells := 0, slots := 0, locals := 14 } : Room).cells ({ frames := 1, cells := 0, slots := 0, locals := 14 } : Room).slots) := by
  refine MetFree.of_bodySF (plainFor_of_name own_pn79) hisR ?_
  intro p e s m args below meth c s₁ Bd hml0 hP hK
  obtain ⟨rfl, hZ, hh⟩ := hP
  have hx := Bd.exec
  have hby := Bd.bytes
  have hml : c.maxLocals = 3 := hml0
  have hown : s.vm.findClass "java/lang/String" = some m.cls := findClass_of_methodNamed Bd.named
  have hnm := (name_of_methodNamed Bd.named Bd.method).1
  have X0 : Stand p l e ({ frames := 1, cells := 0, slots := 0, locals := 14 } : Room) s m #[(.ref a1), (.ref a2)] below meth c s₁ [] 0 0 := Stand.of_body Bd
  have hS0 : s.Since s.vm 0 := (State.WarmedH.refl s).since 0
  have hk0 : 0 ≤ h0.size := Nat.zero_le _
  have hlk := Bd.notSynchronized
  have e0 : s₁.heap = h0 := by rw [← hh, Bd.state]; rfl
  have N0 := Fr.nil n0
  have pre0 : ∀ t, Steps p.tables e below (s₁.setTop (mkF m 0 #[.val (.ref a1), .val (.ref a2), .unset] [])) t → Steps p.tables e below (s₁.setTop (entryFrame m #[(.ref a1), (.ref a2)] 3)) t := fun t k => castTop (own_vBA_ef28 m a1 a2) k
  obtain ⟨T1, X1, e1, st1⟩ := instY X0 hx hZ hown (hw _ (List.mem_of_getElem? (i := 135) rfl)) e0 (Ins.self E_a2) (g := (mkF m 8 #[.val (.ref a1), .val (.ref a2), .unset] [(.ref a2)])) rfl rfl (hb hby own_d28_8)
  obtain ⟨T2, X2, e2, st2⟩ := castY X1 hx hZ hown (hw _ (List.mem_of_getElem? (i := 135) rfl)) e1 (Ins.self E_a2) (g := (mkF m 15 #[.val (.ref a1), .val (.ref a2), .unset] [(.ref a2)])) rfl rfl (hb hby own_d28_15)
  obtain ⟨T3, X3, e3, st3⟩ := getS2 X2 hx hZ hown (host := "") (Or.inl (hw _ (List.mem_of_getElem? (i := 27) rfl))) Via.refl e2 (S_COMPACT_STRINGS.ext O0.2) (g := (mkF m 19 #[.val (.ref a1), .val (.ref a2), .val (.ref a2)] [])) rfl (hb hby own_d28_19)
  obtain ⟨T4, X4, e4, st4⟩ := getF X3 hx hZ hown (host := "") (Or.inl (hw _ (List.mem_of_getElem? (i := 39) rfl))) Via.refl e3 F_coder_a1 (g := (mkF m 26 #[.val (.ref a1), .val (.ref a2), .val (.ref a2)] [(.ref a1)])) rfl rfl (hb hby own_d28_26)
  obtain ⟨T5, X5, e5, st5⟩ := getF X4 hx hZ hown (host := "") (Or.inl (hw _ (List.mem_of_getElem? (i := 39) rfl))) Via.refl e4 F_coder_a2 (g := (mkF m 30 #[.val (.ref a1), .val (.ref a2), .val (.ref a2)] [(.ref a2), (.int (0 : Int32))])) rfl rfl (hb hby own_d28_30)
  obtain ⟨T6, X6, e6, st6⟩ := getF X5 hx hZ hown (host := "") (Or.inl (hw _ (List.mem_of_getElem? (i := 41) rfl))) Via.refl e5 F_value_a1 (g := (mkF m 37 #[.val (.ref a1), .val (.ref a2), .val (.ref a2)] [(.ref a1)])) rfl rfl (hb hby own_d28_37)
  obtain ⟨T7, X7, e7, st7⟩ := getF X6 hx hZ hown (host := "") (Or.inl (hw _ (List.mem_of_getElem? (i := 41) rfl))) Via.refl e6 F_value_a2 (g := (mkF m 41 #[.val (.ref a1), .val (.ref a2), .val (.ref a2)] [(.ref a2), (.ref w_value_a1)])) rfl rfl (hb hby own_d28_41)
  obtain ⟨v8, _, ⟨T8, L8, k8, n8⟩, -, X8, ⟨Lc8, hQ8, l8, y8, z8⟩, st8⟩ := Jvm.LawKit.callS X7 hx (y := (⟨"java/lang/StringLatin1", "equals", "([B[B)Z"⟩ : MethodName)) hown (mvT hZ (hw _ (List.mem_of_getElem? (i := 136) rfl))) (mvT hZ (hw _ (List.mem_of_getElem? (i := 137) rfl))) (mvT hZ (hw _ (List.mem_of_getElem? (i := 90) rfl))) (mvT hZ (hw _ (List.mem_of_getElem? (i := 138) rfl))) (by decide) (backOf (W := 0) (own_vBA_rm29 l Z a0 hw [] w_value_a1 w_value_a2 k_w_value_a1 y0 y1 k_w_value_a2 u0 h0 n0 Z0 V_w_value_a1 V_w_value_a2) hZ (hw _ (List.mem_of_getElem? (i := 138) rfl)) (hw _ (List.mem_of_getElem? (i := 90) rfl)) (by decide) (by decide)) (g := (mkF m 44 #[.val (.ref a1), .val (.ref a2), .val (.ref a2)] [(.ref w_value_a2), (.ref w_value_a1)])) rfl (by rw [hml]; rfl) (argsL := [(.ref w_value_a1), (.ref w_value_a2)]) (rest := []) (lenOf own_pd358 rfl) rfl (by show 2 * 0 + _ ≤ _; exact Nat.le_of_eq rfl) (hb hby own_d28_44) (fun _ _ => ⟨rfl, e7, (by decide : 0 + 0 ≤ _), (by decide : 0 + 0 ≤ _)⟩)
  dsimp only [Pt.U, Pt.locs, Pt.cells, Pt.slots] at X8 l8 y8 z8 st8 hQ8
  subst l8 y8 z8
  obtain ⟨hv8, N8q, e8⟩ := hQ8
  have N9 := Fr.app N0 N8q
  rw [show (own_vBA_f29) = (0 : Int32) from by first | rfl | decide | simp [own_vBA_f29]] at hv8
  subst hv8
  obtain ⟨fs, hr, hrun, hended, hW, hsame⟩ := X8.leave (hlocks := hlk) (v := some (.int (0 : Int32))) (fun h => by rw [Bd.returns] at h; cases h)
  refine ⟨_, _, pre0 _ ?_, hrun, hended, _, _, rfl, ?_, ⟨_, rfl⟩, hW, hsame.mono (by decide) (by decide)⟩
  · show Steps p.tables e below (s₁.setTop (mkF m 0 #[.val (.ref a1), .val (.ref a2), .unset] [])) _
    refine XS.aloadN X0.here hx rfl (hb hby own_d28_0) rfl rfl ?_
    show Steps p.tables e below (s₁.setTop (mkF m 1 #[.val (.ref a1), .val (.ref a2), .unset] [(.ref a1)])) _
    refine XS.aloadN X0.here hx rfl (hb hby own_d28_1) rfl rfl ?_
    show Steps p.tables e below (s₁.setTop (mkF m 2 #[.val (.ref a1), .val (.ref a2), .unset] [(.ref a2), (.ref a1)])) _
    refine Jvm.RoadKit.acmp (g := (mkF m 2 #[.val (.ref a1), .val (.ref a2), .unset] [(.ref a2), (.ref a1)])) X0 hx rfl rfl rfl (pc0 := 2) (pc' := 7) (same := false) rfl (hb hby own_d28_2) rfl (decide_eq_false fun q => hne (Value.ref.inj q)) (by decide) (by decide) ?_
    show Steps p.tables e below (s₁.setTop (mkF m 7 #[.val (.ref a1), .val (.ref a2), .unset] [])) _
    refine XS.aloadN X0.here hx rfl (hb hby own_d28_7) rfl rfl ?_
    show Steps p.tables e below (s₁.setTop (mkF m 8 #[.val (.ref a1), .val (.ref a2), .unset] [(.ref a2)])) _
    refine st1 _ ?_
    show Steps p.tables e below (T1.setTop (mkF m 11 #[.val (.ref a1), .val (.ref a2), .unset] [(.int (1 : Int32))])) _
    refine XS.ifNo X1.here hx rfl (hb hby own_d28_11) rfl ((if0 _ _).trans (feq (by decide : ¬ ((1 : Int32) = (0 : Int32)))).1) ?_
    show Steps p.tables e below (T1.setTop (mkF m 14 #[.val (.ref a1), .val (.ref a2), .unset] [])) _
    refine XS.aloadN X1.here hx rfl (hb hby own_d28_14) rfl rfl ?_
    show Steps p.tables e below (T1.setTop (mkF m 15 #[.val (.ref a1), .val (.ref a2), .unset] [(.ref a2)])) _
    refine st2 _ ?_
    show Steps p.tables e below (T2.setTop (mkF m 18 #[.val (.ref a1), .val (.ref a2), .unset] [(.ref a2)])) _
    refine XS.astoreN X2.here hx rfl (hb hby own_d28_18) rfl rfl (l' := #[.val (.ref a1), .val (.ref a2), .val (.ref a2)]) rfl ?_
    show Steps p.tables e below (T2.setTop (mkF m 19 #[.val (.ref a1), .val (.ref a2), .val (.ref a2)] [])) _
    refine st3 _ ?_
    show Steps p.tables e below (T3.setTop (mkF m 22 #[.val (.ref a1), .val (.ref a2), .val (.ref a2)] [(.int w_COMPACT_STRINGS)])) _
    refine XS.ifNo X3.here hx rfl (hb hby own_d28_22) rfl ((if0 _ _).trans (feq hcs).1) ?_
    show Steps p.tables e below (T3.setTop (mkF m 25 #[.val (.ref a1), .val (.ref a2), .val (.ref a2)] [])) _
    refine XS.aloadN X3.here hx rfl (hb hby own_d28_25) rfl rfl ?_
    show Steps p.tables e below (T3.setTop (mkF m 26 #[.val (.ref a1), .val (.ref a2), .val (.ref a2)] [(.ref a1)])) _
    refine st4 _ ?_
    show Steps p.tables e below (T4.setTop (mkF m 29 #[.val (.ref a1), .val (.ref a2), .val (.ref a2)] [(.int (0 : Int32))])) _
    refine XS.aloadN X4.here hx rfl (hb hby own_d28_29) rfl rfl ?_
    show Steps p.tables e below (T4.setTop (mkF m 30 #[.val (.ref a1), .val (.ref a2), .val (.ref a2)] [(.ref a2), (.int (0 : Int32))])) _
    refine st5 _ ?_
    show Steps p.tables e below (T5.setTop (mkF m 33 #[.val (.ref a1), .val (.ref a2), .val (.ref a2)] [(.int (0 : Int32)), (.int (0 : Int32))])) _
    refine XS.icmpNo X5.here hx rfl (hb hby own_d28_33) rfl (teq (by decide : (0 : Int32) = (0 : Int32))).2 ?_
    show Steps p.tables e below (T5.setTop (mkF m 36 #[.val (.ref a1), .val (.ref a2), .val (.ref a2)] [])) _
    refine XS.aloadN X5.here hx rfl (hb hby own_d28_36) rfl rfl ?_
    show Steps p.tables e below (T5.setTop (mkF m 37 #[.val (.ref a1), .val (.ref a2), .val (.ref a2)] [(.ref a1)])) _
    refine st6 _ ?_
    show Steps p.tables e below (T6.setTop (mkF m 40 #[.val (.ref a1), .val (.ref a2), .val (.ref a2)] [(.ref w_value_a1)])) _
    refine XS.aloadN X6.here hx rfl (hb hby own_d28_40) rfl rfl ?_
    show Steps p.tables e below (T6.setTop (mkF m 41 #[.val (.ref a1), .val (.ref a2), .val (.ref a2)] [(.ref a2), (.ref w_value_a1)])) _
    refine st7 _ ?_
    show Steps p.tables e below (T7.setTop (mkF m 44 #[.val (.ref a1), .val (.ref a2), .val (.ref a2)] [(.ref w_value_a2), (.ref w_value_a1)])) _
    refine st8 _ ?_
    show Steps p.tables e below (T8.setTop (mkF m 47 #[.val (.ref a1), .val (.ref a2), .val (.ref a2)] [(.int (0 : Int32))])) _
    refine XS.ifYes X8.here hx rfl (pc0 := 47) (pc' := 54) rfl (hb hby own_d28_47) rfl ((if0 _ _).trans (teq (by decide : (0 : Int32) = (0 : Int32))).1) (by decide) (by decide) ?_
    show Steps p.tables e below (T8.setTop (mkF m 54 #[.val (.ref a1), .val (.ref a2), .val (.ref a2)] [])) _
    refine XS.iconst X8.here hx rfl (hb hby own_d28_54) ?_
    show Steps p.tables e below (T8.setTop (mkF m 55 #[.val (.ref a1), .val (.ref a2), .val (.ref a2)] [(.int (0 : Int32))])) _
    exact retN X8 hx (t := .boolean) Bd.returns (by simp) (hb hby own_d28_55) hr
  · show own_vBA_Q28 Z a1 a2 w_value_a1 k_w_value_a1 y0 y1 w_value_a2 k_w_value_a2 u0 w_COMPACT_STRINGS h0 n0 _ T8.heap _
    rw [e8]
    exact ⟨(by rw [own_vBA_f28]), N9, rfl⟩
-- body 28, variant BB
theorem own_vBB_ef28 (m : MethodId) (x0 : Addr) (x1 : Addr) : entryFrame m #[(.ref x0), (.ref x1)] 3 = mkF m 0 #[.val (.ref x0), .val (.ref x1), .unset] [] := by first | (simp [entryFrame, mkF, argsToLocals, Value.category]; done) | rfl
def own_vBB_f28 (y0 : Int32) (y1 : Int32) (u0 : Int32) (u1 : Int32) : Int32 := if (own_vBB_f29 y0 y1 u0 u1) = (0 : Int32) then (0 : Int32)
    else (1 : Int32)
def own_vBB_Q28 (Z : State) (a1 : Addr) (a2 : Addr) (w_value_a1 : Addr) (k_w_value_a1 : ClassId) (y0 : Int32) (y1 : Int32) (w_value_a2 : Addr) (k_w_value_a2 : ClassId) (u0 : Int32) (u1 : Int32) (w_COMPACT_STRINGS : Int32) (h0 : Heap) (n0 : Nat) (v : Option Value) (h : Heap) (L : List Loc) : Prop := v = some (.int (own_vBB_f28 y0 y1 u0 u1)) ∧ Fr n0 L ∧ h = h0
set_option maxRecDepth 65536 in
set_option maxHeartbeats 40000000 in
theorem own_vBB_rm28 (l : Launch) (Z : State) (a0 : Array Value) (hw : ∀ d ∈ tables_1, d.before a0 Z = true) (ws : List Jvm.Cond) (a1 : Addr) (a2 : Addr) (w_value_a1 : Addr) (k_w_value_a1 : ClassId) (y0 : Int32) (y1 : Int32) (w_value_a2 : Addr) (k_w_value_a2 : ClassId) (u0 : Int32) (u1 : Int32) (w_COMPACT_STRINGS : Int32) (h0 : Heap) (n0 : Nat) (Z0 : n0 ≤ h0.size) (O0 : Old Z n0 h0) (V_w_value_a1 : Arv Z h0 w_value_a1 k_w_value_a1 .byte (2 : Int32) [(.int y0), (.int y1)] (.int (0 : Int32))) (V_w_value_a2 : Arv Z h0 w_value_a2 k_w_value_a2 .byte (2 : Int32) [(.int u0), (.int u1)] (.int (0 : Int32))) (hne : a1 ≠ a2) (hcs : ¬ w_COMPACT_STRINGS = (0 : Int32)) (E_a2 : Exa Z h0 a2 "java/lang/String") (S_COMPACT_STRINGS : Sta Z Z.heap "java/lang/String" "COMPACT_STRINGS" "Z" (.int w_COMPACT_STRINGS)) (F_coder_a1 : Fld Z h0 a1 "java/lang/String" "coder" "B" (.int (0 : Int32))) (F_coder_a2 : Fld Z h0 a2 "java/lang/String" "coder" "B" (.int (0 : Int32))) (F_value_a1 : Fld Z h0 a1 "java/lang/String" "value" "[B" (.ref w_value_a1)) (F_value_a2 : Fld Z h0 a2 "java/lang/String" "value" "[B" (.ref w_value_a2)) :
    MetFree l (⟨"java/lang/String", "equals", "(Ljava/lang/Object;)Z"⟩ : MethodName) (head1 (Jvm.Cond.code (⟨"java/lang/String", "equals", "(Ljava/lang/Object;)Z"⟩ : MethodName) jdk_42_method_66_code 3 (some .boolean) :: ws) ({ frames := 1, cells := 0, slots := 0, locals := 14 } : Room)) (fun a U => a = #[(.ref a1), (.ref a2)] ∧ Z.Warmed39 U.vm ∧ U.heap = h0) (fun _ _ _ _ _ => True) (fun _ U o U' => ∃ v L, o = .returned v ∧ own_vBB_Q28 Z a1 a2 w_value_a1 k_w_value_a1 y0 y1 w_value_a2 k_w_value_a2 u0 u1 w_COMPACT_STRINGS h0 n0 v U'.heap L ∧ FrameEnd U o U' L ({ frames := 1, cells := 0, slots := 0, locals := 14 } : Room).cells ({ frames := 1, cells := 0, slots := 0, locals := 14 } : Room).slots) := by
  refine MetFree.of_bodySF (plainFor_of_name own_pn79) hisR ?_
  intro p e s m args below meth c s₁ Bd hml0 hP hK
  obtain ⟨rfl, hZ, hh⟩ := hP
  have hx := Bd.exec
  have hby := Bd.bytes
  have hml : c.maxLocals = 3 := hml0
  have hown : s.vm.findClass "java/lang/String" = some m.cls := findClass_of_methodNamed Bd.named
  have hnm := (name_of_methodNamed Bd.named Bd.method).1
  have X0 : Stand p l e ({ frames := 1, cells := 0, slots := 0, locals := 14 } : Room) s m #[(.ref a1), (.ref a2)] below meth c s₁ [] 0 0 := Stand.of_body Bd
  have hS0 : s.Since s.vm 0 := (State.WarmedH.refl s).since 0
  have hk0 : 0 ≤ h0.size := Nat.zero_le _
  have hlk := Bd.notSynchronized
  have e0 : s₁.heap = h0 := by rw [← hh, Bd.state]; rfl
  have N0 := Fr.nil n0
  have pre0 : ∀ t, Steps p.tables e below (s₁.setTop (mkF m 0 #[.val (.ref a1), .val (.ref a2), .unset] [])) t → Steps p.tables e below (s₁.setTop (entryFrame m #[(.ref a1), (.ref a2)] 3)) t := fun t k => castTop (own_vBB_ef28 m a1 a2) k
  obtain ⟨T1, X1, e1, st1⟩ := instY X0 hx hZ hown (hw _ (List.mem_of_getElem? (i := 135) rfl)) e0 (Ins.self E_a2) (g := (mkF m 8 #[.val (.ref a1), .val (.ref a2), .unset] [(.ref a2)])) rfl rfl (hb hby own_d28_8)
  obtain ⟨T2, X2, e2, st2⟩ := castY X1 hx hZ hown (hw _ (List.mem_of_getElem? (i := 135) rfl)) e1 (Ins.self E_a2) (g := (mkF m 15 #[.val (.ref a1), .val (.ref a2), .unset] [(.ref a2)])) rfl rfl (hb hby own_d28_15)
  obtain ⟨T3, X3, e3, st3⟩ := getS2 X2 hx hZ hown (host := "") (Or.inl (hw _ (List.mem_of_getElem? (i := 27) rfl))) Via.refl e2 (S_COMPACT_STRINGS.ext O0.2) (g := (mkF m 19 #[.val (.ref a1), .val (.ref a2), .val (.ref a2)] [])) rfl (hb hby own_d28_19)
  obtain ⟨T4, X4, e4, st4⟩ := getF X3 hx hZ hown (host := "") (Or.inl (hw _ (List.mem_of_getElem? (i := 39) rfl))) Via.refl e3 F_coder_a1 (g := (mkF m 26 #[.val (.ref a1), .val (.ref a2), .val (.ref a2)] [(.ref a1)])) rfl rfl (hb hby own_d28_26)
  obtain ⟨T5, X5, e5, st5⟩ := getF X4 hx hZ hown (host := "") (Or.inl (hw _ (List.mem_of_getElem? (i := 39) rfl))) Via.refl e4 F_coder_a2 (g := (mkF m 30 #[.val (.ref a1), .val (.ref a2), .val (.ref a2)] [(.ref a2), (.int (0 : Int32))])) rfl rfl (hb hby own_d28_30)
  obtain ⟨T6, X6, e6, st6⟩ := getF X5 hx hZ hown (host := "") (Or.inl (hw _ (List.mem_of_getElem? (i := 41) rfl))) Via.refl e5 F_value_a1 (g := (mkF m 37 #[.val (.ref a1), .val (.ref a2), .val (.ref a2)] [(.ref a1)])) rfl rfl (hb hby own_d28_37)
  obtain ⟨T7, X7, e7, st7⟩ := getF X6 hx hZ hown (host := "") (Or.inl (hw _ (List.mem_of_getElem? (i := 41) rfl))) Via.refl e6 F_value_a2 (g := (mkF m 41 #[.val (.ref a1), .val (.ref a2), .val (.ref a2)] [(.ref a2), (.ref w_value_a1)])) rfl rfl (hb hby own_d28_41)
  obtain ⟨v8, _, ⟨T8, L8, k8, n8⟩, -, X8, ⟨Lc8, hQ8, l8, y8, z8⟩, st8⟩ := Jvm.LawKit.callS X7 hx (y := (⟨"java/lang/StringLatin1", "equals", "([B[B)Z"⟩ : MethodName)) hown (mvT hZ (hw _ (List.mem_of_getElem? (i := 136) rfl))) (mvT hZ (hw _ (List.mem_of_getElem? (i := 137) rfl))) (mvT hZ (hw _ (List.mem_of_getElem? (i := 90) rfl))) (mvT hZ (hw _ (List.mem_of_getElem? (i := 138) rfl))) (by decide) (backOf (W := 0) (own_vBB_rm29 l Z a0 hw [] w_value_a1 w_value_a2 k_w_value_a1 y0 y1 k_w_value_a2 u0 u1 h0 n0 Z0 V_w_value_a1 V_w_value_a2) hZ (hw _ (List.mem_of_getElem? (i := 138) rfl)) (hw _ (List.mem_of_getElem? (i := 90) rfl)) (by decide) (by decide)) (g := (mkF m 44 #[.val (.ref a1), .val (.ref a2), .val (.ref a2)] [(.ref w_value_a2), (.ref w_value_a1)])) rfl (by rw [hml]; rfl) (argsL := [(.ref w_value_a1), (.ref w_value_a2)]) (rest := []) (lenOf own_pd358 rfl) rfl (by show 2 * 0 + _ ≤ _; exact Nat.le_of_eq rfl) (hb hby own_d28_44) (fun _ _ => ⟨rfl, e7, (by decide : 0 + 0 ≤ _), (by decide : 0 + 0 ≤ _)⟩)
  dsimp only [Pt.U, Pt.locs, Pt.cells, Pt.slots] at X8 l8 y8 z8 st8 hQ8
  subst l8 y8 z8
  obtain ⟨rfl, N8q, e8⟩ := hQ8
  have N9 := Fr.app N0 N8q
  have k10 : ∀ t, Steps p.tables e below (T8.setTop (mkF m 47 #[.val (.ref a1), .val (.ref a2), .val (.ref a2)] [(.int (own_vBB_f29 y0 y1 u0 u1))])) t → Steps p.tables e below (s₁.setTop (entryFrame m #[(.ref a1), (.ref a2)] 3)) t := by
    intro t kt
    refine pre0 t ?_
    show Steps p.tables e below (s₁.setTop (mkF m 0 #[.val (.ref a1), .val (.ref a2), .unset] [])) _
    refine XS.aloadN X0.here hx rfl (hb hby own_d28_0) rfl rfl ?_
    show Steps p.tables e below (s₁.setTop (mkF m 1 #[.val (.ref a1), .val (.ref a2), .unset] [(.ref a1)])) _
    refine XS.aloadN X0.here hx rfl (hb hby own_d28_1) rfl rfl ?_
    show Steps p.tables e below (s₁.setTop (mkF m 2 #[.val (.ref a1), .val (.ref a2), .unset] [(.ref a2), (.ref a1)])) _
    refine Jvm.RoadKit.acmp (g := (mkF m 2 #[.val (.ref a1), .val (.ref a2), .unset] [(.ref a2), (.ref a1)])) X0 hx rfl rfl rfl (pc0 := 2) (pc' := 7) (same := false) rfl (hb hby own_d28_2) rfl (decide_eq_false fun q => hne (Value.ref.inj q)) (by decide) (by decide) ?_
    show Steps p.tables e below (s₁.setTop (mkF m 7 #[.val (.ref a1), .val (.ref a2), .unset] [])) _
    refine XS.aloadN X0.here hx rfl (hb hby own_d28_7) rfl rfl ?_
    show Steps p.tables e below (s₁.setTop (mkF m 8 #[.val (.ref a1), .val (.ref a2), .unset] [(.ref a2)])) _
    refine st1 _ ?_
    show Steps p.tables e below (T1.setTop (mkF m 11 #[.val (.ref a1), .val (.ref a2), .unset] [(.int (1 : Int32))])) _
    refine XS.ifNo X1.here hx rfl (hb hby own_d28_11) rfl ((if0 _ _).trans (feq (by decide : ¬ ((1 : Int32) = (0 : Int32)))).1) ?_
    show Steps p.tables e below (T1.setTop (mkF m 14 #[.val (.ref a1), .val (.ref a2), .unset] [])) _
    refine XS.aloadN X1.here hx rfl (hb hby own_d28_14) rfl rfl ?_
    show Steps p.tables e below (T1.setTop (mkF m 15 #[.val (.ref a1), .val (.ref a2), .unset] [(.ref a2)])) _
    refine st2 _ ?_
    show Steps p.tables e below (T2.setTop (mkF m 18 #[.val (.ref a1), .val (.ref a2), .unset] [(.ref a2)])) _
    refine XS.astoreN X2.here hx rfl (hb hby own_d28_18) rfl rfl (l' := #[.val (.ref a1), .val (.ref a2), .val (.ref a2)]) rfl ?_
    show Steps p.tables e below (T2.setTop (mkF m 19 #[.val (.ref a1), .val (.ref a2), .val (.ref a2)] [])) _
    refine st3 _ ?_
    show Steps p.tables e below (T3.setTop (mkF m 22 #[.val (.ref a1), .val (.ref a2), .val (.ref a2)] [(.int w_COMPACT_STRINGS)])) _
    refine XS.ifNo X3.here hx rfl (hb hby own_d28_22) rfl ((if0 _ _).trans (feq hcs).1) ?_
    show Steps p.tables e below (T3.setTop (mkF m 25 #[.val (.ref a1), .val (.ref a2), .val (.ref a2)] [])) _
    refine XS.aloadN X3.here hx rfl (hb hby own_d28_25) rfl rfl ?_
    show Steps p.tables e below (T3.setTop (mkF m 26 #[.val (.ref a1), .val (.ref a2), .val (.ref a2)] [(.ref a1)])) _
    refine st4 _ ?_
    show Steps p.tables e below (T4.setTop (mkF m 29 #[.val (.ref a1), .val (.ref a2), .val (.ref a2)] [(.int (0 : Int32))])) _
    refine XS.aloadN X4.here hx rfl (hb hby own_d28_29) rfl rfl ?_
    show Steps p.tables e below (T4.setTop (mkF m 30 #[.val (.ref a1), .val (.ref a2), .val (.ref a2)] [(.ref a2), (.int (0 : Int32))])) _
    refine st5 _ ?_
    show Steps p.tables e below (T5.setTop (mkF m 33 #[.val (.ref a1), .val (.ref a2), .val (.ref a2)] [(.int (0 : Int32)), (.int (0 : Int32))])) _
    refine XS.icmpNo X5.here hx rfl (hb hby own_d28_33) rfl (teq (by decide : (0 : Int32) = (0 : Int32))).2 ?_
    show Steps p.tables e below (T5.setTop (mkF m 36 #[.val (.ref a1), .val (.ref a2), .val (.ref a2)] [])) _
    refine XS.aloadN X5.here hx rfl (hb hby own_d28_36) rfl rfl ?_
    show Steps p.tables e below (T5.setTop (mkF m 37 #[.val (.ref a1), .val (.ref a2), .val (.ref a2)] [(.ref a1)])) _
    refine st6 _ ?_
    show Steps p.tables e below (T6.setTop (mkF m 40 #[.val (.ref a1), .val (.ref a2), .val (.ref a2)] [(.ref w_value_a1)])) _
    refine XS.aloadN X6.here hx rfl (hb hby own_d28_40) rfl rfl ?_
    show Steps p.tables e below (T6.setTop (mkF m 41 #[.val (.ref a1), .val (.ref a2), .val (.ref a2)] [(.ref a2), (.ref w_value_a1)])) _
    refine st7 _ ?_
    show Steps p.tables e below (T7.setTop (mkF m 44 #[.val (.ref a1), .val (.ref a2), .val (.ref a2)] [(.ref w_value_a2), (.ref w_value_a1)])) _
    refine st8 _ ?_
    exact kt
  by_cases hc1 : (own_vBB_f29 y0 y1 u0 u1) = (0 : Int32)
  ·
    obtain ⟨fs, hr, hrun, hended, hW, hsame⟩ := X8.leave (hlocks := hlk) (v := some (.int (0 : Int32))) (fun h => by rw [Bd.returns] at h; cases h)
    refine ⟨_, _, k10 _ ?_, hrun, hended, _, _, rfl, ?_, ⟨_, rfl⟩, hW, hsame.mono (by decide) (by decide)⟩
    · show Steps p.tables e below (T8.setTop (mkF m 47 #[.val (.ref a1), .val (.ref a2), .val (.ref a2)] [(.int (own_vBB_f29 y0 y1 u0 u1))])) _
      refine XS.ifYes X8.here hx rfl (pc0 := 47) (pc' := 54) rfl (hb hby own_d28_47) rfl ((if0 _ _).trans (teq hc1).1) (by decide) (by decide) ?_
      show Steps p.tables e below (T8.setTop (mkF m 54 #[.val (.ref a1), .val (.ref a2), .val (.ref a2)] [])) _
      refine XS.iconst X8.here hx rfl (hb hby own_d28_54) ?_
      show Steps p.tables e below (T8.setTop (mkF m 55 #[.val (.ref a1), .val (.ref a2), .val (.ref a2)] [(.int (0 : Int32))])) _
      exact retN X8 hx (t := .boolean) Bd.returns (by simp) (hb hby own_d28_55) hr
    · show own_vBB_Q28 Z a1 a2 w_value_a1 k_w_value_a1 y0 y1 w_value_a2 k_w_value_a2 u0 u1 w_COMPACT_STRINGS h0 n0 _ T8.heap _
      rw [e8]
      exact ⟨(by rw [own_vBB_f28, if_pos hc1]), N9, rfl⟩
  ·
    obtain ⟨fs, hr, hrun, hended, hW, hsame⟩ := X8.leave (hlocks := hlk) (v := some (.int (1 : Int32))) (fun h => by rw [Bd.returns] at h; cases h)
    refine ⟨_, _, k10 _ ?_, hrun, hended, _, _, rfl, ?_, ⟨_, rfl⟩, hW, hsame.mono (by decide) (by decide)⟩
    · show Steps p.tables e below (T8.setTop (mkF m 47 #[.val (.ref a1), .val (.ref a2), .val (.ref a2)] [(.int (own_vBB_f29 y0 y1 u0 u1))])) _
      refine XS.ifNo X8.here hx rfl (hb hby own_d28_47) rfl ((if0 _ _).trans (feq hc1).1) ?_
      show Steps p.tables e below (T8.setTop (mkF m 50 #[.val (.ref a1), .val (.ref a2), .val (.ref a2)] [])) _
      refine XS.iconst X8.here hx rfl (hb hby own_d28_50) ?_
      show Steps p.tables e below (T8.setTop (mkF m 51 #[.val (.ref a1), .val (.ref a2), .val (.ref a2)] [(.int (1 : Int32))])) _
      refine XS.goto X8.here hx rfl (pc0 := 51) (pc' := 55) rfl (hb hby own_d28_51) (by decide) (by decide) ?_
      show Steps p.tables e below (T8.setTop (mkF m 55 #[.val (.ref a1), .val (.ref a2), .val (.ref a2)] [(.int (1 : Int32))])) _
      exact retN X8 hx (t := .boolean) Bd.returns (by simp) (hb hby own_d28_55) hr
    · show own_vBB_Q28 Z a1 a2 w_value_a1 k_w_value_a1 y0 y1 w_value_a2 k_w_value_a2 u0 u1 w_COMPACT_STRINGS h0 n0 _ T8.heap _
      rw [e8]
      exact ⟨(by rw [own_vBB_f28, if_neg hc1]), N9, rfl⟩
def own_eqS : List Value → List Value → Int32
  | [.int y0], [.int u0] => own_vAA_f28 y0 u0
  | [.int _], [.int _, .int _] => own_vAB_f28
  | [.int _, .int _], [.int _] => own_vBA_f28
  | [.int y0, .int y1], [.int u0, .int u1] => own_vBB_f28 y0 y1 u0 u1
  | _, _ => 0
def own_c_Q28 (Z : State) (a1 : Addr) (a2 : Addr) (w_value_a1 : Addr) (k_w_value_a1 : ClassId) (N_w_value_a1 : Int32) (B_w_value_a1 : List Value) (w_value_a2 : Addr) (k_w_value_a2 : ClassId) (N_w_value_a2 : Int32) (B_w_value_a2 : List Value) (w_COMPACT_STRINGS : Int32) (h0 : Heap) (n0 : Nat) (v : Option Value) (h : Heap) (L : List Loc) : Prop := v = some (.int (own_eqS B_w_value_a1 B_w_value_a2)) ∧ Fr n0 L ∧ h = h0
set_option maxRecDepth 65536 in
set_option maxHeartbeats 40000000 in
theorem own_c_rm28 (l : Launch) (Z : State) (a0 : Array Value) (hw : ∀ d ∈ tables_1, d.before a0 Z = true) (ws : List Jvm.Cond) (a1 : Addr) (a2 : Addr) (w_value_a1 : Addr) (k_w_value_a1 : ClassId) (N_w_value_a1 : Int32) (B_w_value_a1 : List Value) (w_value_a2 : Addr) (k_w_value_a2 : ClassId) (N_w_value_a2 : Int32) (B_w_value_a2 : List Value) (w_COMPACT_STRINGS : Int32) (h0 : Heap) (n0 : Nat) (Z0 : n0 ≤ h0.size) (O0 : Old Z n0 h0) (V_w_value_a1 : Arv Z h0 w_value_a1 k_w_value_a1 .byte N_w_value_a1 B_w_value_a1 (.int (0 : Int32))) (V_w_value_a2 : Arv Z h0 w_value_a2 k_w_value_a2 .byte N_w_value_a2 B_w_value_a2 (.int (0 : Int32))) (hne : a1 ≠ a2) (hcs : ¬ w_COMPACT_STRINGS = (0 : Int32)) (E_a2 : Exa Z h0 a2 "java/lang/String") (S_COMPACT_STRINGS : Sta Z Z.heap "java/lang/String" "COMPACT_STRINGS" "Z" (.int w_COMPACT_STRINGS)) (F_coder_a1 : Fld Z h0 a1 "java/lang/String" "coder" "B" (.int (0 : Int32))) (F_coder_a2 : Fld Z h0 a2 "java/lang/String" "coder" "B" (.int (0 : Int32))) (F_value_a1 : Fld Z h0 a1 "java/lang/String" "value" "[B" (.ref w_value_a1)) (F_value_a2 : Fld Z h0 a2 "java/lang/String" "value" "[B" (.ref w_value_a2)) (hok1 : own_okS N_w_value_a1 B_w_value_a1) (hok2 : own_okS N_w_value_a2 B_w_value_a2) :
    MetFree l (⟨"java/lang/String", "equals", "(Ljava/lang/Object;)Z"⟩ : MethodName) (head1 (Jvm.Cond.code (⟨"java/lang/String", "equals", "(Ljava/lang/Object;)Z"⟩ : MethodName) jdk_42_method_66_code 3 (some .boolean) :: ws) ({ frames := 1, cells := 0, slots := 0, locals := 14 } : Room)) (fun a U => a = #[(.ref a1), (.ref a2)] ∧ Z.Warmed39 U.vm ∧ U.heap = h0) (fun _ _ _ _ _ => True) (fun _ U o U' => ∃ v L, o = .returned v ∧ own_c_Q28 Z a1 a2 w_value_a1 k_w_value_a1 N_w_value_a1 B_w_value_a1 w_value_a2 k_w_value_a2 N_w_value_a2 B_w_value_a2 w_COMPACT_STRINGS h0 n0 v U'.heap L ∧ FrameEnd U o U' L ({ frames := 1, cells := 0, slots := 0, locals := 14 } : Room).cells ({ frames := 1, cells := 0, slots := 0, locals := 14 } : Room).slots) := by
  rcases hok1 with ⟨y0, rfl, rfl, gd0y⟩ | ⟨y0, y1, rfl, rfl, gd0y, gd1y⟩
  all_goals rcases hok2 with ⟨u0, rfl, rfl, gd0u⟩ | ⟨u0, u1, rfl, rfl, gd0u, gd1u⟩
  · exact own_vAA_rm28 l Z a0 hw ws a1 a2 w_value_a1 k_w_value_a1 y0 w_value_a2 k_w_value_a2 u0 w_COMPACT_STRINGS h0 n0 Z0 O0 V_w_value_a1 V_w_value_a2 hne hcs E_a2 S_COMPACT_STRINGS F_coder_a1 F_coder_a2 F_value_a1 F_value_a2
  · exact own_vAB_rm28 l Z a0 hw ws a1 a2 w_value_a1 k_w_value_a1 y0 w_value_a2 k_w_value_a2 u0 u1 w_COMPACT_STRINGS h0 n0 Z0 O0 V_w_value_a1 V_w_value_a2 hne hcs E_a2 S_COMPACT_STRINGS F_coder_a1 F_coder_a2 F_value_a1 F_value_a2
  · exact own_vBA_rm28 l Z a0 hw ws a1 a2 w_value_a1 k_w_value_a1 y0 y1 w_value_a2 k_w_value_a2 u0 w_COMPACT_STRINGS h0 n0 Z0 O0 V_w_value_a1 V_w_value_a2 hne hcs E_a2 S_COMPACT_STRINGS F_coder_a1 F_coder_a2 F_value_a1 F_value_a2
  · exact own_vBB_rm28 l Z a0 hw ws a1 a2 w_value_a1 k_w_value_a1 y0 y1 w_value_a2 k_w_value_a2 u0 u1 w_COMPACT_STRINGS h0 n0 Z0 O0 V_w_value_a1 V_w_value_a2 hne hcs E_a2 S_COMPACT_STRINGS F_coder_a1 F_coder_a2 F_value_a1 F_value_a2
-- body 27, variant R
theorem own_d27_0 : decode prog_7_method_5_code 0 = .ok (.aload_n 0, 1) := by decide +kernel
theorem own_d27_1 : decode prog_7_method_5_code 1 = .ok (.aload_n 1, 1) := by decide +kernel
theorem own_d27_2 : decode prog_7_method_5_code 2 = .ok (.if_acmp .ne 5, 3) := by decide +kernel
theorem own_d27_7 : decode prog_7_method_5_code 7 = .ok (.aload_n 1, 1) := by decide +kernel
theorem own_d27_8 : decode prog_7_method_5_code 8 = .ok (.instanceof 10, 3) := by decide +kernel
theorem own_d27_11 : decode prog_7_method_5_code 11 = .ok (.ifCond .ne 5, 3) := by decide +kernel
theorem own_d27_16 : decode prog_7_method_5_code 16 = .ok (.aload_n 1, 1) := by decide +kernel
theorem own_d27_17 : decode prog_7_method_5_code 17 = .ok (.checkcast 10, 3) := by decide +kernel
theorem own_d27_20 : decode prog_7_method_5_code 20 = .ok (.astore_n 2, 1) := by decide +kernel
theorem own_d27_21 : decode prog_7_method_5_code 21 = .ok (.aload_n 0, 1) := by decide +kernel
theorem own_d27_22 : decode prog_7_method_5_code 22 = .ok (.getfield 15, 3) := by decide +kernel
theorem own_d27_25 : decode prog_7_method_5_code 25 = .ok (.aload_n 2, 1) := by decide +kernel
theorem own_d27_26 : decode prog_7_method_5_code 26 = .ok (.getfield 15, 3) := by decide +kernel
theorem own_d27_29 : decode prog_7_method_5_code 29 = .ok (.invokevirtual 26, 3) := by decide +kernel
theorem own_d27_32 : decode prog_7_method_5_code 32 = .ok (.ifCond .eq 35, 3) := by decide +kernel
theorem own_d27_35 : decode prog_7_method_5_code 35 = .ok (.aload_n 0, 1) := by decide +kernel
theorem own_d27_36 : decode prog_7_method_5_code 36 = .ok (.getfield 20, 3) := by decide +kernel
theorem own_d27_39 : decode prog_7_method_5_code 39 = .ok (.aload_n 2, 1) := by decide +kernel
theorem own_d27_40 : decode prog_7_method_5_code 40 = .ok (.getfield 20, 3) := by decide +kernel
theorem own_d27_43 : decode prog_7_method_5_code 43 = .ok (.invokevirtual 26, 3) := by decide +kernel
theorem own_d27_46 : decode prog_7_method_5_code 46 = .ok (.ifCond .eq 21, 3) := by decide +kernel
theorem own_d27_49 : decode prog_7_method_5_code 49 = .ok (.aload_n 0, 1) := by decide +kernel
theorem own_d27_50 : decode prog_7_method_5_code 50 = .ok (.getfield 24, 3) := by decide +kernel
theorem own_d27_53 : decode prog_7_method_5_code 53 = .ok (.aload_n 2, 1) := by decide +kernel
theorem own_d27_54 : decode prog_7_method_5_code 54 = .ok (.getfield 24, 3) := by decide +kernel
theorem own_d27_57 : decode prog_7_method_5_code 57 = .ok (.invokevirtual 26, 3) := by decide +kernel
theorem own_d27_60 : decode prog_7_method_5_code 60 = .ok (.ifCond .eq 7, 3) := by decide +kernel
theorem own_d27_63 : decode prog_7_method_5_code 63 = .ok (.iconst 1, 1) := by decide +kernel
theorem own_d27_64 : decode prog_7_method_5_code 64 = .ok (.goto 4, 3) := by decide +kernel
theorem own_d27_67 : decode prog_7_method_5_code 67 = .ok (.iconst 0, 1) := by decide +kernel
theorem own_d27_68 : decode prog_7_method_5_code 68 = .ok (.ireturn, 1) := by decide +kernel
theorem own_vR_ef27 (m : MethodId) (x0 : Addr) (x1 : Addr) : entryFrame m #[(.ref x0), (.ref x1)] 3 = mkF m 0 #[.val (.ref x0), .val (.ref x1), .unset] [] := by first | (simp [entryFrame, mkF, argsToLocals, Value.category]; done) | rfl
def own_vR_f27 (B_w_value_w_subject_a1 : List Value) (B_w_value_w_subject_a2 : List Value) (B_w_value_w_action_a1 : List Value) (B_w_value_w_action_a2 : List Value) (B_w_value_w_object_a1 : List Value) (B_w_value_w_object_a2 : List Value) : Int32 := if (own_eqS B_w_value_w_subject_a1 B_w_value_w_subject_a2) = (0 : Int32) then (0 : Int32)
    else if (own_eqS B_w_value_w_action_a1 B_w_value_w_action_a2) = (0 : Int32) then (0 : Int32)
      else if (own_eqS B_w_value_w_object_a1 B_w_value_w_object_a2) = (0 : Int32) then (0 : Int32)
        else (1 : Int32)
def own_vR_Q27 (Z : State) (a1 : Addr) (a2 : Addr) (w_value_w_subject_a1 : Addr) (k_w_value_w_subject_a1 : ClassId) (N_w_value_w_subject_a1 : Int32) (B_w_value_w_subject_a1 : List Value) (w_value_w_subject_a2 : Addr) (k_w_value_w_subject_a2 : ClassId) (N_w_value_w_subject_a2 : Int32) (B_w_value_w_subject_a2 : List Value) (w_value_w_action_a1 : Addr) (k_w_value_w_action_a1 : ClassId) (N_w_value_w_action_a1 : Int32) (B_w_value_w_action_a1 : List Value) (w_value_w_action_a2 : Addr) (k_w_value_w_action_a2 : ClassId) (N_w_value_w_action_a2 : Int32) (B_w_value_w_action_a2 : List Value) (w_value_w_object_a1 : Addr) (k_w_value_w_object_a1 : ClassId) (N_w_value_w_object_a1 : Int32) (B_w_value_w_object_a1 : List Value) (w_value_w_object_a2 : Addr) (k_w_value_w_object_a2 : ClassId) (N_w_value_w_object_a2 : Int32) (B_w_value_w_object_a2 : List Value) (w_subject_a1 : Addr) (w_subject_a2 : Addr) (w_COMPACT_STRINGS : Int32) (w_action_a1 : Addr) (w_action_a2 : Addr) (w_object_a1 : Addr) (w_object_a2 : Addr) (h0 : Heap) (n0 : Nat) (v : Option Value) (h : Heap) (L : List Loc) : Prop := v = some (.int (own_vR_f27 B_w_value_w_subject_a1 B_w_value_w_subject_a2 B_w_value_w_action_a1 B_w_value_w_action_a2 B_w_value_w_object_a1 B_w_value_w_object_a2)) ∧ Fr n0 L ∧ h = h0
set_option maxRecDepth 65536 in
set_option maxHeartbeats 40000000 in
theorem own_vR_rm27 (l : Launch) (Z : State) (a0 : Array Value) (hw : ∀ d ∈ tables_1, d.before a0 Z = true) (ws : List Jvm.Cond) (a1 : Addr) (a2 : Addr) (w_value_w_subject_a1 : Addr) (k_w_value_w_subject_a1 : ClassId) (N_w_value_w_subject_a1 : Int32) (B_w_value_w_subject_a1 : List Value) (w_value_w_subject_a2 : Addr) (k_w_value_w_subject_a2 : ClassId) (N_w_value_w_subject_a2 : Int32) (B_w_value_w_subject_a2 : List Value) (w_value_w_action_a1 : Addr) (k_w_value_w_action_a1 : ClassId) (N_w_value_w_action_a1 : Int32) (B_w_value_w_action_a1 : List Value) (w_value_w_action_a2 : Addr) (k_w_value_w_action_a2 : ClassId) (N_w_value_w_action_a2 : Int32) (B_w_value_w_action_a2 : List Value) (w_value_w_object_a1 : Addr) (k_w_value_w_object_a1 : ClassId) (N_w_value_w_object_a1 : Int32) (B_w_value_w_object_a1 : List Value) (w_value_w_object_a2 : Addr) (k_w_value_w_object_a2 : ClassId) (N_w_value_w_object_a2 : Int32) (B_w_value_w_object_a2 : List Value) (w_subject_a1 : Addr) (w_subject_a2 : Addr) (w_COMPACT_STRINGS : Int32) (w_action_a1 : Addr) (w_action_a2 : Addr) (w_object_a1 : Addr) (w_object_a2 : Addr) (h0 : Heap) (n0 : Nat) (Z0 : n0 ≤ h0.size) (O0 : Old Z n0 h0) (V_w_value_w_subject_a1 : Arv Z h0 w_value_w_subject_a1 k_w_value_w_subject_a1 .byte N_w_value_w_subject_a1 B_w_value_w_subject_a1 (.int (0 : Int32))) (V_w_value_w_subject_a2 : Arv Z h0 w_value_w_subject_a2 k_w_value_w_subject_a2 .byte N_w_value_w_subject_a2 B_w_value_w_subject_a2 (.int (0 : Int32))) (V_w_value_w_action_a1 : Arv Z h0 w_value_w_action_a1 k_w_value_w_action_a1 .byte N_w_value_w_action_a1 B_w_value_w_action_a1 (.int (0 : Int32))) (V_w_value_w_action_a2 : Arv Z h0 w_value_w_action_a2 k_w_value_w_action_a2 .byte N_w_value_w_action_a2 B_w_value_w_action_a2 (.int (0 : Int32))) (V_w_value_w_object_a1 : Arv Z h0 w_value_w_object_a1 k_w_value_w_object_a1 .byte N_w_value_w_object_a1 B_w_value_w_object_a1 (.int (0 : Int32))) (V_w_value_w_object_a2 : Arv Z h0 w_value_w_object_a2 k_w_value_w_object_a2 .byte N_w_value_w_object_a2 B_w_value_w_object_a2 (.int (0 : Int32))) (hok_w_subject_a1 : own_okS N_w_value_w_subject_a1 B_w_value_w_subject_a1) (hok_w_subject_a2 : own_okS N_w_value_w_subject_a2 B_w_value_w_subject_a2) (hok_w_action_a1 : own_okS N_w_value_w_action_a1 B_w_value_w_action_a1) (hok_w_action_a2 : own_okS N_w_value_w_action_a2 B_w_value_w_action_a2) (hok_w_object_a1 : own_okS N_w_value_w_object_a1 B_w_value_w_object_a1) (hok_w_object_a2 : own_okS N_w_value_w_object_a2 B_w_value_w_object_a2) (hne : a1 ≠ a2) (hcs : ¬ w_COMPACT_STRINGS = (0 : Int32)) (E_a2 : Exa Z h0 a2 "com/example/nanshe/nanshe/engine/Request") (F_subject_a1 : Fld Z h0 a1 "com/example/nanshe/nanshe/engine/Request" "subject" "Ljava/lang/String;" (.ref w_subject_a1)) (F_subject_a2 : Fld Z h0 a2 "com/example/nanshe/nanshe/engine/Request" "subject" "Ljava/lang/String;" (.ref w_subject_a2)) (S_COMPACT_STRINGS : Sta Z Z.heap "java/lang/String" "COMPACT_STRINGS" "Z" (.int w_COMPACT_STRINGS)) (F_coder_w_subject_a1 : Fld Z h0 w_subject_a1 "java/lang/String" "coder" "B" (.int (0 : Int32))) (F_coder_w_subject_a2 : Fld Z h0 w_subject_a2 "java/lang/String" "coder" "B" (.int (0 : Int32))) (F_value_w_subject_a1 : Fld Z h0 w_subject_a1 "java/lang/String" "value" "[B" (.ref w_value_w_subject_a1)) (F_value_w_subject_a2 : Fld Z h0 w_subject_a2 "java/lang/String" "value" "[B" (.ref w_value_w_subject_a2)) (ne_w_subject_a1_w_subject_a2 : w_subject_a1 ≠ w_subject_a2) (E_w_subject_a2 : Exa Z h0 w_subject_a2 "java/lang/String") (E_w_subject_a1 : Exa Z h0 w_subject_a1 "java/lang/String") (F_action_a1 : Fld Z h0 a1 "com/example/nanshe/nanshe/engine/Request" "action" "Ljava/lang/String;" (.ref w_action_a1)) (F_action_a2 : Fld Z h0 a2 "com/example/nanshe/nanshe/engine/Request" "action" "Ljava/lang/String;" (.ref w_action_a2)) (F_coder_w_action_a1 : Fld Z h0 w_action_a1 "java/lang/String" "coder" "B" (.int (0 : Int32))) (F_coder_w_action_a2 : Fld Z h0 w_action_a2 "java/lang/String" "coder" "B" (.int (0 : Int32))) (F_value_w_action_a1 : Fld Z h0 w_action_a1 "java/lang/String" "value" "[B" (.ref w_value_w_action_a1)) (F_value_w_action_a2 : Fld Z h0 w_action_a2 "java/lang/String" "value" "[B" (.ref w_value_w_action_a2)) (ne_w_action_a1_w_action_a2 : w_action_a1 ≠ w_action_a2) (E_w_action_a2 : Exa Z h0 w_action_a2 "java/lang/String") (E_w_action_a1 : Exa Z h0 w_action_a1 "java/lang/String") (F_object_a1 : Fld Z h0 a1 "com/example/nanshe/nanshe/engine/Request" "object" "Ljava/lang/String;" (.ref w_object_a1)) (F_object_a2 : Fld Z h0 a2 "com/example/nanshe/nanshe/engine/Request" "object" "Ljava/lang/String;" (.ref w_object_a2)) (F_coder_w_object_a1 : Fld Z h0 w_object_a1 "java/lang/String" "coder" "B" (.int (0 : Int32))) (F_coder_w_object_a2 : Fld Z h0 w_object_a2 "java/lang/String" "coder" "B" (.int (0 : Int32))) (F_value_w_object_a1 : Fld Z h0 w_object_a1 "java/lang/String" "value" "[B" (.ref w_value_w_object_a1)) (F_value_w_object_a2 : Fld Z h0 w_object_a2 "java/lang/String" "value" "[B" (.ref w_value_w_object_a2)) (ne_w_object_a1_w_object_a2 : w_object_a1 ≠ w_object_a2) (E_w_object_a2 : Exa Z h0 w_object_a2 "java/lang/String") (E_w_object_a1 : Exa Z h0 w_object_a1 "java/lang/String") :
    MetFree l (⟨"com/example/nanshe/nanshe/engine/Request", "equals", "(Ljava/lang/Object;)Z"⟩ : MethodName) (head1 (Jvm.Cond.code (⟨"com/example/nanshe/nanshe/engine/Request", "equals", "(Ljava/lang/Object;)Z"⟩ : MethodName) prog_7_method_5_code 3 (some .boolean) :: ws) ({ frames := 2, cells := 0, slots := 0, locals := 28 } : Room)) (fun a U => a = #[(.ref a1), (.ref a2)] ∧ Z.Warmed39 U.vm ∧ U.heap = h0) (fun _ _ _ _ _ => True) (fun _ U o U' => ∃ v L, o = .returned v ∧ own_vR_Q27 Z a1 a2 w_value_w_subject_a1 k_w_value_w_subject_a1 N_w_value_w_subject_a1 B_w_value_w_subject_a1 w_value_w_subject_a2 k_w_value_w_subject_a2 N_w_value_w_subject_a2 B_w_value_w_subject_a2 w_value_w_action_a1 k_w_value_w_action_a1 N_w_value_w_action_a1 B_w_value_w_action_a1 w_value_w_action_a2 k_w_value_w_action_a2 N_w_value_w_action_a2 B_w_value_w_action_a2 w_value_w_object_a1 k_w_value_w_object_a1 N_w_value_w_object_a1 B_w_value_w_object_a1 w_value_w_object_a2 k_w_value_w_object_a2 N_w_value_w_object_a2 B_w_value_w_object_a2 w_subject_a1 w_subject_a2 w_COMPACT_STRINGS w_action_a1 w_action_a2 w_object_a1 w_object_a2 h0 n0 v U'.heap L ∧ FrameEnd U o U' L ({ frames := 2, cells := 0, slots := 0, locals := 28 } : Room).cells ({ frames := 2, cells := 0, slots := 0, locals := 28 } : Room).slots) := by
  refine MetFree.of_bodySF (plainFor_of_name own_pn227) hisR ?_
  intro p e s m args below meth c s₁ Bd hml0 hP hK
  obtain ⟨rfl, hZ, hh⟩ := hP
  have hx := Bd.exec
  have hby := Bd.bytes
  have hml : c.maxLocals = 3 := hml0
  have hown : s.vm.findClass "com/example/nanshe/nanshe/engine/Request" = some m.cls := findClass_of_methodNamed Bd.named
  have hnm := (name_of_methodNamed Bd.named Bd.method).1
  have X0 : Stand p l e ({ frames := 2, cells := 0, slots := 0, locals := 28 } : Room) s m #[(.ref a1), (.ref a2)] below meth c s₁ [] 0 0 := Stand.of_body Bd
  have hS0 : s.Since s.vm 0 := (State.WarmedH.refl s).since 0
  have hk0 : 0 ≤ h0.size := Nat.zero_le _
  have hlk := Bd.notSynchronized
  have e0 : s₁.heap = h0 := by rw [← hh, Bd.state]; rfl
  have N0 := Fr.nil n0
  have pre0 : ∀ t, Steps p.tables e below (s₁.setTop (mkF m 0 #[.val (.ref a1), .val (.ref a2), .unset] [])) t → Steps p.tables e below (s₁.setTop (entryFrame m #[(.ref a1), (.ref a2)] 3)) t := fun t k => castTop (own_vR_ef27 m a1 a2) k
  obtain ⟨T1, X1, e1, st1⟩ := instY X0 hx hZ hown (hw _ (List.mem_of_getElem? (i := 128) rfl)) e0 (Ins.self E_a2) (g := (mkF m 8 #[.val (.ref a1), .val (.ref a2), .unset] [(.ref a2)])) rfl rfl (hb hby own_d27_8)
  obtain ⟨T2, X2, e2, st2⟩ := castY X1 hx hZ hown (hw _ (List.mem_of_getElem? (i := 128) rfl)) e1 (Ins.self E_a2) (g := (mkF m 17 #[.val (.ref a1), .val (.ref a2), .unset] [(.ref a2)])) rfl rfl (hb hby own_d27_17)
  obtain ⟨T3, X3, e3, st3⟩ := getF X2 hx hZ hown (host := "") (Or.inl (hw _ (List.mem_of_getElem? (i := 112) rfl))) Via.refl e2 F_subject_a1 (g := (mkF m 22 #[.val (.ref a1), .val (.ref a2), .val (.ref a2)] [(.ref a1)])) rfl rfl (hb hby own_d27_22)
  obtain ⟨T4, X4, e4, st4⟩ := getF X3 hx hZ hown (host := "") (Or.inl (hw _ (List.mem_of_getElem? (i := 112) rfl))) Via.refl e3 F_subject_a2 (g := (mkF m 26 #[.val (.ref a1), .val (.ref a2), .val (.ref a2)] [(.ref a2), (.ref w_subject_a1)])) rfl rfl (hb hby own_d27_26)
  obtain ⟨cq5, kq5, q5a, q5b, q5c⟩ := isOf hZ e4 E_w_subject_a1
  obtain ⟨v5, _, ⟨T5, L5, k5, n5⟩, -, X5, ⟨Lc5, hQ5, l5, y5, z5⟩, st5⟩ := X4.virtualBack hx (y := (⟨"java/lang/String", "equals", "(Ljava/lang/Object;)Z"⟩ : MethodName)) (z := (⟨"java/lang/String", "equals", "(Ljava/lang/Object;)Z"⟩ : MethodName)) hown (mvT hZ (hw _ (List.mem_of_getElem? (i := 130) rfl))) (mvT hZ (hw _ (List.mem_of_getElem? (i := 131) rfl))) (notFace_of_selects (args := #[]) (mvT hZ (hw _ (List.mem_of_getElem? (i := 133) rfl)))) (mvT hZ (hw _ (List.mem_of_getElem? (i := 133) rfl))) (mvT hZ (hw _ (List.mem_of_getElem? (i := 132) rfl))) (by decide) (backOf (W := 0) (own_c_rm28 l Z a0 hw [] w_subject_a1 w_subject_a2 w_value_w_subject_a1 k_w_value_w_subject_a1 N_w_value_w_subject_a1 B_w_value_w_subject_a1 w_value_w_subject_a2 k_w_value_w_subject_a2 N_w_value_w_subject_a2 B_w_value_w_subject_a2 w_COMPACT_STRINGS h0 n0 Z0 O0 V_w_value_w_subject_a1 V_w_value_w_subject_a2 ne_w_subject_a1_w_subject_a2 hcs E_w_subject_a2 S_COMPACT_STRINGS F_coder_w_subject_a1 F_coder_w_subject_a2 F_value_w_subject_a1 F_value_w_subject_a2 hok_w_subject_a1 hok_w_subject_a2) hZ (hw _ (List.mem_of_getElem? (i := 134) rfl)) (hw _ (List.mem_of_getElem? (i := 16) rfl)) (by decide) (by decide)) q5a q5c (g := (mkF m 29 #[.val (.ref a1), .val (.ref a2), .val (.ref a2)] [(.ref w_subject_a2), (.ref w_subject_a1)])) rfl (by rw [hml]; rfl) (Steps.refl _) (argsL := [(.ref w_subject_a2)]) (rest := []) (lenOf own_pd385 rfl) rfl (by show 2 * 0 + _ ≤ _; exact Nat.le_of_eq rfl) (hb hby own_d27_29) (fun _ _ => ⟨rfl, e4, (by decide : 0 + 0 ≤ _), (by decide : 0 + 0 ≤ _)⟩)
  dsimp only [Pt.U, Pt.locs, Pt.cells, Pt.slots] at X5 l5 y5 z5 st5 hQ5
  subst l5 y5 z5
  obtain ⟨rfl, N5q, e5⟩ := hQ5
  have N6 := Fr.app N0 N5q
  have k7 : ∀ t, Steps p.tables e below (T5.setTop (mkF m 32 #[.val (.ref a1), .val (.ref a2), .val (.ref a2)] [(.int (own_eqS B_w_value_w_subject_a1 B_w_value_w_subject_a2))])) t → Steps p.tables e below (s₁.setTop (entryFrame m #[(.ref a1), (.ref a2)] 3)) t := by
    intro t kt
    refine pre0 t ?_
    show Steps p.tables e below (s₁.setTop (mkF m 0 #[.val (.ref a1), .val (.ref a2), .unset] [])) _
    refine XS.aloadN X0.here hx rfl (hb hby own_d27_0) rfl rfl ?_
    show Steps p.tables e below (s₁.setTop (mkF m 1 #[.val (.ref a1), .val (.ref a2), .unset] [(.ref a1)])) _
    refine XS.aloadN X0.here hx rfl (hb hby own_d27_1) rfl rfl ?_
    show Steps p.tables e below (s₁.setTop (mkF m 2 #[.val (.ref a1), .val (.ref a2), .unset] [(.ref a2), (.ref a1)])) _
    refine Jvm.RoadKit.acmp (g := (mkF m 2 #[.val (.ref a1), .val (.ref a2), .unset] [(.ref a2), (.ref a1)])) X0 hx rfl rfl rfl (pc0 := 2) (pc' := 7) (same := false) rfl (hb hby own_d27_2) rfl (decide_eq_false fun q => hne (Value.ref.inj q)) (by decide) (by decide) ?_
    show Steps p.tables e below (s₁.setTop (mkF m 7 #[.val (.ref a1), .val (.ref a2), .unset] [])) _
    refine XS.aloadN X0.here hx rfl (hb hby own_d27_7) rfl rfl ?_
    show Steps p.tables e below (s₁.setTop (mkF m 8 #[.val (.ref a1), .val (.ref a2), .unset] [(.ref a2)])) _
    refine st1 _ ?_
    show Steps p.tables e below (T1.setTop (mkF m 11 #[.val (.ref a1), .val (.ref a2), .unset] [(.int (1 : Int32))])) _
    refine XS.ifYes X1.here hx rfl (pc0 := 11) (pc' := 16) rfl (hb hby own_d27_11) rfl ((if0 _ _).trans (feq (by decide : ¬ ((1 : Int32) = (0 : Int32)))).2) (by decide) (by decide) ?_
    show Steps p.tables e below (T1.setTop (mkF m 16 #[.val (.ref a1), .val (.ref a2), .unset] [])) _
    refine XS.aloadN X1.here hx rfl (hb hby own_d27_16) rfl rfl ?_
    show Steps p.tables e below (T1.setTop (mkF m 17 #[.val (.ref a1), .val (.ref a2), .unset] [(.ref a2)])) _
    refine st2 _ ?_
    show Steps p.tables e below (T2.setTop (mkF m 20 #[.val (.ref a1), .val (.ref a2), .unset] [(.ref a2)])) _
    refine XS.astoreN X2.here hx rfl (hb hby own_d27_20) rfl rfl (l' := #[.val (.ref a1), .val (.ref a2), .val (.ref a2)]) rfl ?_
    show Steps p.tables e below (T2.setTop (mkF m 21 #[.val (.ref a1), .val (.ref a2), .val (.ref a2)] [])) _
    refine XS.aloadN X2.here hx rfl (hb hby own_d27_21) rfl rfl ?_
    show Steps p.tables e below (T2.setTop (mkF m 22 #[.val (.ref a1), .val (.ref a2), .val (.ref a2)] [(.ref a1)])) _
    refine st3 _ ?_
    show Steps p.tables e below (T3.setTop (mkF m 25 #[.val (.ref a1), .val (.ref a2), .val (.ref a2)] [(.ref w_subject_a1)])) _
    refine XS.aloadN X3.here hx rfl (hb hby own_d27_25) rfl rfl ?_
    show Steps p.tables e below (T3.setTop (mkF m 26 #[.val (.ref a1), .val (.ref a2), .val (.ref a2)] [(.ref a2), (.ref w_subject_a1)])) _
    refine st4 _ ?_
    show Steps p.tables e below (T4.setTop (mkF m 29 #[.val (.ref a1), .val (.ref a2), .val (.ref a2)] [(.ref w_subject_a2), (.ref w_subject_a1)])) _
    refine st5.trans ?_
    exact kt
  by_cases hc1 : (own_eqS B_w_value_w_subject_a1 B_w_value_w_subject_a2) = (0 : Int32)
  ·
    obtain ⟨fs, hr, hrun, hended, hW, hsame⟩ := X5.leave (hlocks := hlk) (v := some (.int (0 : Int32))) (fun h => by rw [Bd.returns] at h; cases h)
    refine ⟨_, _, k7 _ ?_, hrun, hended, _, _, rfl, ?_, ⟨_, rfl⟩, hW, hsame.mono (by decide) (by decide)⟩
    · show Steps p.tables e below (T5.setTop (mkF m 32 #[.val (.ref a1), .val (.ref a2), .val (.ref a2)] [(.int (own_eqS B_w_value_w_subject_a1 B_w_value_w_subject_a2))])) _
      refine XS.ifYes X5.here hx rfl (pc0 := 32) (pc' := 67) rfl (hb hby own_d27_32) rfl ((if0 _ _).trans (teq hc1).1) (by decide) (by decide) ?_
      show Steps p.tables e below (T5.setTop (mkF m 67 #[.val (.ref a1), .val (.ref a2), .val (.ref a2)] [])) _
      refine XS.iconst X5.here hx rfl (hb hby own_d27_67) ?_
      show Steps p.tables e below (T5.setTop (mkF m 68 #[.val (.ref a1), .val (.ref a2), .val (.ref a2)] [(.int (0 : Int32))])) _
      exact retN X5 hx (t := .boolean) Bd.returns (by simp) (hb hby own_d27_68) hr
    · show own_vR_Q27 Z a1 a2 w_value_w_subject_a1 k_w_value_w_subject_a1 N_w_value_w_subject_a1 B_w_value_w_subject_a1 w_value_w_subject_a2 k_w_value_w_subject_a2 N_w_value_w_subject_a2 B_w_value_w_subject_a2 w_value_w_action_a1 k_w_value_w_action_a1 N_w_value_w_action_a1 B_w_value_w_action_a1 w_value_w_action_a2 k_w_value_w_action_a2 N_w_value_w_action_a2 B_w_value_w_action_a2 w_value_w_object_a1 k_w_value_w_object_a1 N_w_value_w_object_a1 B_w_value_w_object_a1 w_value_w_object_a2 k_w_value_w_object_a2 N_w_value_w_object_a2 B_w_value_w_object_a2 w_subject_a1 w_subject_a2 w_COMPACT_STRINGS w_action_a1 w_action_a2 w_object_a1 w_object_a2 h0 n0 _ T5.heap _
      rw [e5]
      exact ⟨(by rw [own_vR_f27, if_pos hc1]), N6, rfl⟩
  ·
    obtain ⟨T8, X8, e8, st8⟩ := getF X5 hx hZ hown (host := "") (Or.inl (hw _ (List.mem_of_getElem? (i := 115) rfl))) Via.refl e5 F_action_a1 (g := (mkF m 36 #[.val (.ref a1), .val (.ref a2), .val (.ref a2)] [(.ref a1)])) rfl rfl (hb hby own_d27_36)
    obtain ⟨T9, X9, e9, st9⟩ := getF X8 hx hZ hown (host := "") (Or.inl (hw _ (List.mem_of_getElem? (i := 115) rfl))) Via.refl e8 F_action_a2 (g := (mkF m 40 #[.val (.ref a1), .val (.ref a2), .val (.ref a2)] [(.ref a2), (.ref w_action_a1)])) rfl rfl (hb hby own_d27_40)
    obtain ⟨cq10, kq10, q10a, q10b, q10c⟩ := isOf hZ e9 E_w_action_a1
    obtain ⟨v10, _, ⟨T10, L10, k10, n10⟩, -, X10, ⟨Lc10, hQ10, l10, y10, z10⟩, st10⟩ := X9.virtualBack hx (y := (⟨"java/lang/String", "equals", "(Ljava/lang/Object;)Z"⟩ : MethodName)) (z := (⟨"java/lang/String", "equals", "(Ljava/lang/Object;)Z"⟩ : MethodName)) hown (mvT hZ (hw _ (List.mem_of_getElem? (i := 130) rfl))) (mvT hZ (hw _ (List.mem_of_getElem? (i := 131) rfl))) (notFace_of_selects (args := #[]) (mvT hZ (hw _ (List.mem_of_getElem? (i := 133) rfl)))) (mvT hZ (hw _ (List.mem_of_getElem? (i := 133) rfl))) (mvT hZ (hw _ (List.mem_of_getElem? (i := 132) rfl))) (by decide) (backOf (W := 0) (own_c_rm28 l Z a0 hw [] w_action_a1 w_action_a2 w_value_w_action_a1 k_w_value_w_action_a1 N_w_value_w_action_a1 B_w_value_w_action_a1 w_value_w_action_a2 k_w_value_w_action_a2 N_w_value_w_action_a2 B_w_value_w_action_a2 w_COMPACT_STRINGS h0 n0 Z0 O0 V_w_value_w_action_a1 V_w_value_w_action_a2 ne_w_action_a1_w_action_a2 hcs E_w_action_a2 S_COMPACT_STRINGS F_coder_w_action_a1 F_coder_w_action_a2 F_value_w_action_a1 F_value_w_action_a2 hok_w_action_a1 hok_w_action_a2) hZ (hw _ (List.mem_of_getElem? (i := 134) rfl)) (hw _ (List.mem_of_getElem? (i := 16) rfl)) (by decide) (by decide)) q10a q10c (g := (mkF m 43 #[.val (.ref a1), .val (.ref a2), .val (.ref a2)] [(.ref w_action_a2), (.ref w_action_a1)])) rfl (by rw [hml]; rfl) (Steps.refl _) (argsL := [(.ref w_action_a2)]) (rest := []) (lenOf own_pd385 rfl) rfl (by show 2 * 0 + _ ≤ _; exact Nat.le_of_eq rfl) (hb hby own_d27_43) (fun _ _ => ⟨rfl, e9, (by decide : 0 + 0 ≤ _), (by decide : 0 + 0 ≤ _)⟩)
    dsimp only [Pt.U, Pt.locs, Pt.cells, Pt.slots] at X10 l10 y10 z10 st10 hQ10
    subst l10 y10 z10
    obtain ⟨rfl, N10q, e10⟩ := hQ10
    have N11 := Fr.app N6 N10q
    have k12 : ∀ t, Steps p.tables e below (T10.setTop (mkF m 46 #[.val (.ref a1), .val (.ref a2), .val (.ref a2)] [(.int (own_eqS B_w_value_w_action_a1 B_w_value_w_action_a2))])) t → Steps p.tables e below (s₁.setTop (entryFrame m #[(.ref a1), (.ref a2)] 3)) t := by
      intro t kt
      refine k7 t ?_
      show Steps p.tables e below (T5.setTop (mkF m 32 #[.val (.ref a1), .val (.ref a2), .val (.ref a2)] [(.int (own_eqS B_w_value_w_subject_a1 B_w_value_w_subject_a2))])) _
      refine XS.ifNo X5.here hx rfl (hb hby own_d27_32) rfl ((if0 _ _).trans (feq hc1).1) ?_
      show Steps p.tables e below (T5.setTop (mkF m 35 #[.val (.ref a1), .val (.ref a2), .val (.ref a2)] [])) _
      refine XS.aloadN X5.here hx rfl (hb hby own_d27_35) rfl rfl ?_
      show Steps p.tables e below (T5.setTop (mkF m 36 #[.val (.ref a1), .val (.ref a2), .val (.ref a2)] [(.ref a1)])) _
      refine st8 _ ?_
      show Steps p.tables e below (T8.setTop (mkF m 39 #[.val (.ref a1), .val (.ref a2), .val (.ref a2)] [(.ref w_action_a1)])) _
      refine XS.aloadN X8.here hx rfl (hb hby own_d27_39) rfl rfl ?_
      show Steps p.tables e below (T8.setTop (mkF m 40 #[.val (.ref a1), .val (.ref a2), .val (.ref a2)] [(.ref a2), (.ref w_action_a1)])) _
      refine st9 _ ?_
      show Steps p.tables e below (T9.setTop (mkF m 43 #[.val (.ref a1), .val (.ref a2), .val (.ref a2)] [(.ref w_action_a2), (.ref w_action_a1)])) _
      refine st10.trans ?_
      exact kt
    by_cases hc2 : (own_eqS B_w_value_w_action_a1 B_w_value_w_action_a2) = (0 : Int32)
    ·
      obtain ⟨fs, hr, hrun, hended, hW, hsame⟩ := X10.leave (hlocks := hlk) (v := some (.int (0 : Int32))) (fun h => by rw [Bd.returns] at h; cases h)
      refine ⟨_, _, k12 _ ?_, hrun, hended, _, _, rfl, ?_, ⟨_, rfl⟩, hW, hsame.mono (by decide) (by decide)⟩
      · show Steps p.tables e below (T10.setTop (mkF m 46 #[.val (.ref a1), .val (.ref a2), .val (.ref a2)] [(.int (own_eqS B_w_value_w_action_a1 B_w_value_w_action_a2))])) _
        refine XS.ifYes X10.here hx rfl (pc0 := 46) (pc' := 67) rfl (hb hby own_d27_46) rfl ((if0 _ _).trans (teq hc2).1) (by decide) (by decide) ?_
        show Steps p.tables e below (T10.setTop (mkF m 67 #[.val (.ref a1), .val (.ref a2), .val (.ref a2)] [])) _
        refine XS.iconst X10.here hx rfl (hb hby own_d27_67) ?_
        show Steps p.tables e below (T10.setTop (mkF m 68 #[.val (.ref a1), .val (.ref a2), .val (.ref a2)] [(.int (0 : Int32))])) _
        exact retN X10 hx (t := .boolean) Bd.returns (by simp) (hb hby own_d27_68) hr
      · show own_vR_Q27 Z a1 a2 w_value_w_subject_a1 k_w_value_w_subject_a1 N_w_value_w_subject_a1 B_w_value_w_subject_a1 w_value_w_subject_a2 k_w_value_w_subject_a2 N_w_value_w_subject_a2 B_w_value_w_subject_a2 w_value_w_action_a1 k_w_value_w_action_a1 N_w_value_w_action_a1 B_w_value_w_action_a1 w_value_w_action_a2 k_w_value_w_action_a2 N_w_value_w_action_a2 B_w_value_w_action_a2 w_value_w_object_a1 k_w_value_w_object_a1 N_w_value_w_object_a1 B_w_value_w_object_a1 w_value_w_object_a2 k_w_value_w_object_a2 N_w_value_w_object_a2 B_w_value_w_object_a2 w_subject_a1 w_subject_a2 w_COMPACT_STRINGS w_action_a1 w_action_a2 w_object_a1 w_object_a2 h0 n0 _ T10.heap _
        rw [e10]
        exact ⟨(by rw [own_vR_f27, if_neg hc1, if_pos hc2]), N11, rfl⟩
    ·
      obtain ⟨T13, X13, e13, st13⟩ := getF X10 hx hZ hown (host := "") (Or.inl (hw _ (List.mem_of_getElem? (i := 118) rfl))) Via.refl e10 F_object_a1 (g := (mkF m 50 #[.val (.ref a1), .val (.ref a2), .val (.ref a2)] [(.ref a1)])) rfl rfl (hb hby own_d27_50)
      obtain ⟨T14, X14, e14, st14⟩ := getF X13 hx hZ hown (host := "") (Or.inl (hw _ (List.mem_of_getElem? (i := 118) rfl))) Via.refl e13 F_object_a2 (g := (mkF m 54 #[.val (.ref a1), .val (.ref a2), .val (.ref a2)] [(.ref a2), (.ref w_object_a1)])) rfl rfl (hb hby own_d27_54)
      obtain ⟨cq15, kq15, q15a, q15b, q15c⟩ := isOf hZ e14 E_w_object_a1
      obtain ⟨v15, _, ⟨T15, L15, k15, n15⟩, -, X15, ⟨Lc15, hQ15, l15, y15, z15⟩, st15⟩ := X14.virtualBack hx (y := (⟨"java/lang/String", "equals", "(Ljava/lang/Object;)Z"⟩ : MethodName)) (z := (⟨"java/lang/String", "equals", "(Ljava/lang/Object;)Z"⟩ : MethodName)) hown (mvT hZ (hw _ (List.mem_of_getElem? (i := 130) rfl))) (mvT hZ (hw _ (List.mem_of_getElem? (i := 131) rfl))) (notFace_of_selects (args := #[]) (mvT hZ (hw _ (List.mem_of_getElem? (i := 133) rfl)))) (mvT hZ (hw _ (List.mem_of_getElem? (i := 133) rfl))) (mvT hZ (hw _ (List.mem_of_getElem? (i := 132) rfl))) (by decide) (backOf (W := 0) (own_c_rm28 l Z a0 hw [] w_object_a1 w_object_a2 w_value_w_object_a1 k_w_value_w_object_a1 N_w_value_w_object_a1 B_w_value_w_object_a1 w_value_w_object_a2 k_w_value_w_object_a2 N_w_value_w_object_a2 B_w_value_w_object_a2 w_COMPACT_STRINGS h0 n0 Z0 O0 V_w_value_w_object_a1 V_w_value_w_object_a2 ne_w_object_a1_w_object_a2 hcs E_w_object_a2 S_COMPACT_STRINGS F_coder_w_object_a1 F_coder_w_object_a2 F_value_w_object_a1 F_value_w_object_a2 hok_w_object_a1 hok_w_object_a2) hZ (hw _ (List.mem_of_getElem? (i := 134) rfl)) (hw _ (List.mem_of_getElem? (i := 16) rfl)) (by decide) (by decide)) q15a q15c (g := (mkF m 57 #[.val (.ref a1), .val (.ref a2), .val (.ref a2)] [(.ref w_object_a2), (.ref w_object_a1)])) rfl (by rw [hml]; rfl) (Steps.refl _) (argsL := [(.ref w_object_a2)]) (rest := []) (lenOf own_pd385 rfl) rfl (by show 2 * 0 + _ ≤ _; exact Nat.le_of_eq rfl) (hb hby own_d27_57) (fun _ _ => ⟨rfl, e14, (by decide : 0 + 0 ≤ _), (by decide : 0 + 0 ≤ _)⟩)
      dsimp only [Pt.U, Pt.locs, Pt.cells, Pt.slots] at X15 l15 y15 z15 st15 hQ15
      subst l15 y15 z15
      obtain ⟨rfl, N15q, e15⟩ := hQ15
      have N16 := Fr.app N11 N15q
      have k17 : ∀ t, Steps p.tables e below (T15.setTop (mkF m 60 #[.val (.ref a1), .val (.ref a2), .val (.ref a2)] [(.int (own_eqS B_w_value_w_object_a1 B_w_value_w_object_a2))])) t → Steps p.tables e below (s₁.setTop (entryFrame m #[(.ref a1), (.ref a2)] 3)) t := by
        intro t kt
        refine k12 t ?_
        show Steps p.tables e below (T10.setTop (mkF m 46 #[.val (.ref a1), .val (.ref a2), .val (.ref a2)] [(.int (own_eqS B_w_value_w_action_a1 B_w_value_w_action_a2))])) _
        refine XS.ifNo X10.here hx rfl (hb hby own_d27_46) rfl ((if0 _ _).trans (feq hc2).1) ?_
        show Steps p.tables e below (T10.setTop (mkF m 49 #[.val (.ref a1), .val (.ref a2), .val (.ref a2)] [])) _
        refine XS.aloadN X10.here hx rfl (hb hby own_d27_49) rfl rfl ?_
        show Steps p.tables e below (T10.setTop (mkF m 50 #[.val (.ref a1), .val (.ref a2), .val (.ref a2)] [(.ref a1)])) _
        refine st13 _ ?_
        show Steps p.tables e below (T13.setTop (mkF m 53 #[.val (.ref a1), .val (.ref a2), .val (.ref a2)] [(.ref w_object_a1)])) _
        refine XS.aloadN X13.here hx rfl (hb hby own_d27_53) rfl rfl ?_
        show Steps p.tables e below (T13.setTop (mkF m 54 #[.val (.ref a1), .val (.ref a2), .val (.ref a2)] [(.ref a2), (.ref w_object_a1)])) _
        refine st14 _ ?_
        show Steps p.tables e below (T14.setTop (mkF m 57 #[.val (.ref a1), .val (.ref a2), .val (.ref a2)] [(.ref w_object_a2), (.ref w_object_a1)])) _
        refine st15.trans ?_
        exact kt
      by_cases hc3 : (own_eqS B_w_value_w_object_a1 B_w_value_w_object_a2) = (0 : Int32)
      ·
        obtain ⟨fs, hr, hrun, hended, hW, hsame⟩ := X15.leave (hlocks := hlk) (v := some (.int (0 : Int32))) (fun h => by rw [Bd.returns] at h; cases h)
        refine ⟨_, _, k17 _ ?_, hrun, hended, _, _, rfl, ?_, ⟨_, rfl⟩, hW, hsame.mono (by decide) (by decide)⟩
        · show Steps p.tables e below (T15.setTop (mkF m 60 #[.val (.ref a1), .val (.ref a2), .val (.ref a2)] [(.int (own_eqS B_w_value_w_object_a1 B_w_value_w_object_a2))])) _
          refine XS.ifYes X15.here hx rfl (pc0 := 60) (pc' := 67) rfl (hb hby own_d27_60) rfl ((if0 _ _).trans (teq hc3).1) (by decide) (by decide) ?_
          show Steps p.tables e below (T15.setTop (mkF m 67 #[.val (.ref a1), .val (.ref a2), .val (.ref a2)] [])) _
          refine XS.iconst X15.here hx rfl (hb hby own_d27_67) ?_
          show Steps p.tables e below (T15.setTop (mkF m 68 #[.val (.ref a1), .val (.ref a2), .val (.ref a2)] [(.int (0 : Int32))])) _
          exact retN X15 hx (t := .boolean) Bd.returns (by simp) (hb hby own_d27_68) hr
        · show own_vR_Q27 Z a1 a2 w_value_w_subject_a1 k_w_value_w_subject_a1 N_w_value_w_subject_a1 B_w_value_w_subject_a1 w_value_w_subject_a2 k_w_value_w_subject_a2 N_w_value_w_subject_a2 B_w_value_w_subject_a2 w_value_w_action_a1 k_w_value_w_action_a1 N_w_value_w_action_a1 B_w_value_w_action_a1 w_value_w_action_a2 k_w_value_w_action_a2 N_w_value_w_action_a2 B_w_value_w_action_a2 w_value_w_object_a1 k_w_value_w_object_a1 N_w_value_w_object_a1 B_w_value_w_object_a1 w_value_w_object_a2 k_w_value_w_object_a2 N_w_value_w_object_a2 B_w_value_w_object_a2 w_subject_a1 w_subject_a2 w_COMPACT_STRINGS w_action_a1 w_action_a2 w_object_a1 w_object_a2 h0 n0 _ T15.heap _
          rw [e15]
          exact ⟨(by rw [own_vR_f27, if_neg hc1, if_neg hc2, if_pos hc3]), N16, rfl⟩
      ·
        obtain ⟨fs, hr, hrun, hended, hW, hsame⟩ := X15.leave (hlocks := hlk) (v := some (.int (1 : Int32))) (fun h => by rw [Bd.returns] at h; cases h)
        refine ⟨_, _, k17 _ ?_, hrun, hended, _, _, rfl, ?_, ⟨_, rfl⟩, hW, hsame.mono (by decide) (by decide)⟩
        · show Steps p.tables e below (T15.setTop (mkF m 60 #[.val (.ref a1), .val (.ref a2), .val (.ref a2)] [(.int (own_eqS B_w_value_w_object_a1 B_w_value_w_object_a2))])) _
          refine XS.ifNo X15.here hx rfl (hb hby own_d27_60) rfl ((if0 _ _).trans (feq hc3).1) ?_
          show Steps p.tables e below (T15.setTop (mkF m 63 #[.val (.ref a1), .val (.ref a2), .val (.ref a2)] [])) _
          refine XS.iconst X15.here hx rfl (hb hby own_d27_63) ?_
          show Steps p.tables e below (T15.setTop (mkF m 64 #[.val (.ref a1), .val (.ref a2), .val (.ref a2)] [(.int (1 : Int32))])) _
          refine XS.goto X15.here hx rfl (pc0 := 64) (pc' := 68) rfl (hb hby own_d27_64) (by decide) (by decide) ?_
          show Steps p.tables e below (T15.setTop (mkF m 68 #[.val (.ref a1), .val (.ref a2), .val (.ref a2)] [(.int (1 : Int32))])) _
          exact retN X15 hx (t := .boolean) Bd.returns (by simp) (hb hby own_d27_68) hr
        · show own_vR_Q27 Z a1 a2 w_value_w_subject_a1 k_w_value_w_subject_a1 N_w_value_w_subject_a1 B_w_value_w_subject_a1 w_value_w_subject_a2 k_w_value_w_subject_a2 N_w_value_w_subject_a2 B_w_value_w_subject_a2 w_value_w_action_a1 k_w_value_w_action_a1 N_w_value_w_action_a1 B_w_value_w_action_a1 w_value_w_action_a2 k_w_value_w_action_a2 N_w_value_w_action_a2 B_w_value_w_action_a2 w_value_w_object_a1 k_w_value_w_object_a1 N_w_value_w_object_a1 B_w_value_w_object_a1 w_value_w_object_a2 k_w_value_w_object_a2 N_w_value_w_object_a2 B_w_value_w_object_a2 w_subject_a1 w_subject_a2 w_COMPACT_STRINGS w_action_a1 w_action_a2 w_object_a1 w_object_a2 h0 n0 _ T15.heap _
          rw [e15]
          exact ⟨(by rw [own_vR_f27, if_neg hc1, if_neg hc2, if_neg hc3]), N16, rfl⟩
-- body 27, variant S
theorem own_d27_5 : decode prog_7_method_5_code 5 = .ok (.iconst 1, 1) := by decide +kernel
theorem own_d27_6 : decode prog_7_method_5_code 6 = .ok (.ireturn, 1) := by decide +kernel
theorem own_vS_ef27 (m : MethodId) (x0 : Addr) (x1 : Addr) : entryFrame m #[(.ref x0), (.ref x1)] 3 = mkF m 0 #[.val (.ref x0), .val (.ref x1), .unset] [] := by first | (simp [entryFrame, mkF, argsToLocals, Value.category]; done) | rfl
def own_vS_f27 : Int32 := (1 : Int32)
def own_vS_Q27 (Z : State) (a1 : Addr) (a2 : Addr) (h0 : Heap) (n0 : Nat) (v : Option Value) (h : Heap) (L : List Loc) : Prop := v = some (.int (own_vS_f27)) ∧ Fr n0 L ∧ h = h0
set_option maxRecDepth 65536 in
set_option maxHeartbeats 40000000 in
theorem own_vS_rm27 (l : Launch) (Z : State) (a0 : Array Value) (hw : ∀ d ∈ tables_1, d.before a0 Z = true) (ws : List Jvm.Cond) (a1 : Addr) (a2 : Addr) (h0 : Heap) (n0 : Nat) (Z0 : n0 ≤ h0.size) (hsm : a1 = a2) :
    MetFree l (⟨"com/example/nanshe/nanshe/engine/Request", "equals", "(Ljava/lang/Object;)Z"⟩ : MethodName) (head1 (Jvm.Cond.code (⟨"com/example/nanshe/nanshe/engine/Request", "equals", "(Ljava/lang/Object;)Z"⟩ : MethodName) prog_7_method_5_code 3 (some .boolean) :: ws) ({ frames := 0, cells := 0, slots := 0, locals := 0 } : Room)) (fun a U => a = #[(.ref a1), (.ref a2)] ∧ Z.Warmed39 U.vm ∧ U.heap = h0) (fun _ _ _ _ _ => True) (fun _ U o U' => ∃ v L, o = .returned v ∧ own_vS_Q27 Z a1 a2 h0 n0 v U'.heap L ∧ FrameEnd U o U' L ({ frames := 0, cells := 0, slots := 0, locals := 0 } : Room).cells ({ frames := 0, cells := 0, slots := 0, locals := 0 } : Room).slots) := by
  refine MetFree.of_bodySF (plainFor_of_name own_pn227) hisR ?_
  intro p e s m args below meth c s₁ Bd hml0 hP hK
  obtain ⟨rfl, hZ, hh⟩ := hP
  have hx := Bd.exec
  have hby := Bd.bytes
  have hml : c.maxLocals = 3 := hml0
  have hown : s.vm.findClass "com/example/nanshe/nanshe/engine/Request" = some m.cls := findClass_of_methodNamed Bd.named
  have hnm := (name_of_methodNamed Bd.named Bd.method).1
  have X0 : Stand p l e ({ frames := 0, cells := 0, slots := 0, locals := 0 } : Room) s m #[(.ref a1), (.ref a2)] below meth c s₁ [] 0 0 := Stand.of_body Bd
  have hS0 : s.Since s.vm 0 := (State.WarmedH.refl s).since 0
  have hk0 : 0 ≤ h0.size := Nat.zero_le _
  have hlk := Bd.notSynchronized
  have e0 : s₁.heap = h0 := by rw [← hh, Bd.state]; rfl
  have N0 := Fr.nil n0
  have pre0 : ∀ t, Steps p.tables e below (s₁.setTop (mkF m 0 #[.val (.ref a1), .val (.ref a2), .unset] [])) t → Steps p.tables e below (s₁.setTop (entryFrame m #[(.ref a1), (.ref a2)] 3)) t := fun t k => castTop (own_vS_ef27 m a1 a2) k
  obtain ⟨fs, hr, hrun, hended, hW, hsame⟩ := X0.leave (hlocks := hlk) (v := some (.int (1 : Int32))) (fun h => by rw [Bd.returns] at h; cases h)
  refine ⟨_, _, pre0 _ ?_, hrun, hended, _, _, rfl, ?_, ⟨_, rfl⟩, hW, hsame.mono (by decide) (by decide)⟩
  · show Steps p.tables e below (s₁.setTop (mkF m 0 #[.val (.ref a1), .val (.ref a2), .unset] [])) _
    refine XS.aloadN X0.here hx rfl (hb hby own_d27_0) rfl rfl ?_
    show Steps p.tables e below (s₁.setTop (mkF m 1 #[.val (.ref a1), .val (.ref a2), .unset] [(.ref a1)])) _
    refine XS.aloadN X0.here hx rfl (hb hby own_d27_1) rfl rfl ?_
    show Steps p.tables e below (s₁.setTop (mkF m 2 #[.val (.ref a1), .val (.ref a2), .unset] [(.ref a2), (.ref a1)])) _
    refine Jvm.RoadKit.acmp (g := (mkF m 2 #[.val (.ref a1), .val (.ref a2), .unset] [(.ref a2), (.ref a1)])) X0 hx rfl rfl rfl (pc0 := 2) (pc' := 5) (same := true) rfl (hb hby own_d27_2) rfl (decide_eq_true (congrArg Value.ref hsm)) (by decide) (by decide) ?_
    show Steps p.tables e below (s₁.setTop (mkF m 5 #[.val (.ref a1), .val (.ref a2), .unset] [])) _
    refine XS.iconst X0.here hx rfl (hb hby own_d27_5) ?_
    show Steps p.tables e below (s₁.setTop (mkF m 6 #[.val (.ref a1), .val (.ref a2), .unset] [(.int (1 : Int32))])) _
    exact retN X0 hx (t := .boolean) Bd.returns (by simp) (hb hby own_d27_6) hr
  · show own_vS_Q27 Z a1 a2 h0 n0 _ s₁.heap _
    rw [e0]
    exact ⟨(by rw [own_vS_f27]), N0, rfl⟩
theorem own_alien {a0 : Array Value} {Z : State} (hw : ∀ d ∈ tables_1, d.before a0 Z = true) : ∃ c t, Z.vm.findClass "java/lang/String" = some c ∧ Z.vm.findClass "com/example/nanshe/nanshe/engine/Request" = some t ∧ Z.vm.assignable c t = false := by
  have w1 := hw (Jvm.Cond.superclass "java/lang/String" "java/lang/Object") (List.mem_of_getElem? (i := 139) rfl)
  have w2 := hw (Jvm.Cond.noSuperclass "java/lang/Object") (List.mem_of_getElem? (i := 140) rfl)
  have w3 := hw (Jvm.Cond.instantiable "com/example/nanshe/nanshe/engine/Request" (3 : Nat)) (List.mem_of_getElem? (i := 1) rfl)
  obtain ⟨t, kt, g0, g2, g5, g7, -, -⟩ := Cond.instantiable_spec w3
  obtain ⟨o, ko, o1, o2, o3, -, -⟩ := Cond.noSuperclass_spec w2
  obtain ⟨c, h0⟩ := found_sup w1
  obtain ⟨p, k, kp, h1, h2, h3, h4, h5, -, h7⟩ := Cond.superclass_spec h0 w1
  cases o1.symm.trans h1
  have ne1 := ids_ne h0 g0 (by decide)
  have ne2 := ids_ne o1 g0 (by decide)
  have n3 : ∀ fuel, Z.vm.isSubclassAux fuel c t = false := fun fuel => by
    cases fuel with
    | zero => rfl
    | succ f =>
      simp [Vm.isSubclassAux, ne1, h2, h4]
      cases f with
      | zero => rfl
      | succ f => simp [Vm.isSubclassAux, ne2, o2, o3]
  have g8 : kt.isInterface = false := by
    cases q : kt.isInterface with
    | false => rfl
    | true => rw [q] at g7; simp at g7
  refine ⟨c, t, h0, g0, ?_⟩
  show Z.vm.assignableAux (255 + 1) c t = false
  simp [Vm.assignableAux, ne1, h2, g2, h5, g5, g8, Vm.isSubclass, n3]
-- body 27, variant T
theorem own_d27_14 : decode prog_7_method_5_code 14 = .ok (.iconst 0, 1) := by decide +kernel
theorem own_d27_15 : decode prog_7_method_5_code 15 = .ok (.ireturn, 1) := by decide +kernel
theorem own_vT_ef27 (m : MethodId) (x0 : Addr) (x1 : Addr) : entryFrame m #[(.ref x0), (.ref x1)] 3 = mkF m 0 #[.val (.ref x0), .val (.ref x1), .unset] [] := by first | (simp [entryFrame, mkF, argsToLocals, Value.category]; done) | rfl
def own_vT_f27 : Int32 := (0 : Int32)
def own_vT_Q27 (Z : State) (a1 : Addr) (a2 : Addr) (h0 : Heap) (n0 : Nat) (v : Option Value) (h : Heap) (L : List Loc) : Prop := v = some (.int (own_vT_f27)) ∧ Fr n0 L ∧ h = h0
set_option maxRecDepth 65536 in
set_option maxHeartbeats 40000000 in
theorem own_vT_rm27 (l : Launch) (Z : State) (a0 : Array Value) (hw : ∀ d ∈ tables_1, d.before a0 Z = true) (ws : List Jvm.Cond) (a1 : Addr) (a2 : Addr) (h0 : Heap) (n0 : Nat) (Z0 : n0 ≤ h0.size) (hne : a1 ≠ a2) (E_a2 : Exa Z h0 a2 "java/lang/String") :
    MetFree l (⟨"com/example/nanshe/nanshe/engine/Request", "equals", "(Ljava/lang/Object;)Z"⟩ : MethodName) (head1 (Jvm.Cond.code (⟨"com/example/nanshe/nanshe/engine/Request", "equals", "(Ljava/lang/Object;)Z"⟩ : MethodName) prog_7_method_5_code 3 (some .boolean) :: ws) ({ frames := 0, cells := 0, slots := 0, locals := 0 } : Room)) (fun a U => a = #[(.ref a1), (.ref a2)] ∧ Z.Warmed39 U.vm ∧ U.heap = h0) (fun _ _ _ _ _ => True) (fun _ U o U' => ∃ v L, o = .returned v ∧ own_vT_Q27 Z a1 a2 h0 n0 v U'.heap L ∧ FrameEnd U o U' L ({ frames := 0, cells := 0, slots := 0, locals := 0 } : Room).cells ({ frames := 0, cells := 0, slots := 0, locals := 0 } : Room).slots) := by
  refine MetFree.of_bodySF (plainFor_of_name own_pn227) hisR ?_
  intro p e s m args below meth c s₁ Bd hml0 hP hK
  obtain ⟨rfl, hZ, hh⟩ := hP
  have hx := Bd.exec
  have hby := Bd.bytes
  have hml : c.maxLocals = 3 := hml0
  have hown : s.vm.findClass "com/example/nanshe/nanshe/engine/Request" = some m.cls := findClass_of_methodNamed Bd.named
  have hnm := (name_of_methodNamed Bd.named Bd.method).1
  have X0 : Stand p l e ({ frames := 0, cells := 0, slots := 0, locals := 0 } : Room) s m #[(.ref a1), (.ref a2)] below meth c s₁ [] 0 0 := Stand.of_body Bd
  have hS0 : s.Since s.vm 0 := (State.WarmedH.refl s).since 0
  have hk0 : 0 ≤ h0.size := Nat.zero_le _
  have hlk := Bd.notSynchronized
  have e0 : s₁.heap = h0 := by rw [← hh, Bd.state]; rfl
  have N0 := Fr.nil n0
  have pre0 : ∀ t, Steps p.tables e below (s₁.setTop (mkF m 0 #[.val (.ref a1), .val (.ref a2), .unset] [])) t → Steps p.tables e below (s₁.setTop (entryFrame m #[(.ref a1), (.ref a2)] 3)) t := fun t k => castTop (own_vT_ef27 m a1 a2) k
  obtain ⟨T1, X1, e1, st1⟩ := instNo X0 hx hZ hown (hw _ (List.mem_of_getElem? (i := 128) rfl)) e0 E_a2 (own_alien hw) (g := (mkF m 8 #[.val (.ref a1), .val (.ref a2), .unset] [(.ref a2)])) rfl rfl (hb hby own_d27_8)
  obtain ⟨fs, hr, hrun, hended, hW, hsame⟩ := X1.leave (hlocks := hlk) (v := some (.int (0 : Int32))) (fun h => by rw [Bd.returns] at h; cases h)
  refine ⟨_, _, pre0 _ ?_, hrun, hended, _, _, rfl, ?_, ⟨_, rfl⟩, hW, hsame.mono (by decide) (by decide)⟩
  · show Steps p.tables e below (s₁.setTop (mkF m 0 #[.val (.ref a1), .val (.ref a2), .unset] [])) _
    refine XS.aloadN X0.here hx rfl (hb hby own_d27_0) rfl rfl ?_
    show Steps p.tables e below (s₁.setTop (mkF m 1 #[.val (.ref a1), .val (.ref a2), .unset] [(.ref a1)])) _
    refine XS.aloadN X0.here hx rfl (hb hby own_d27_1) rfl rfl ?_
    show Steps p.tables e below (s₁.setTop (mkF m 2 #[.val (.ref a1), .val (.ref a2), .unset] [(.ref a2), (.ref a1)])) _
    refine Jvm.RoadKit.acmp (g := (mkF m 2 #[.val (.ref a1), .val (.ref a2), .unset] [(.ref a2), (.ref a1)])) X0 hx rfl rfl rfl (pc0 := 2) (pc' := 7) (same := false) rfl (hb hby own_d27_2) rfl (decide_eq_false fun q => hne (Value.ref.inj q)) (by decide) (by decide) ?_
    show Steps p.tables e below (s₁.setTop (mkF m 7 #[.val (.ref a1), .val (.ref a2), .unset] [])) _
    refine XS.aloadN X0.here hx rfl (hb hby own_d27_7) rfl rfl ?_
    show Steps p.tables e below (s₁.setTop (mkF m 8 #[.val (.ref a1), .val (.ref a2), .unset] [(.ref a2)])) _
    refine st1 _ ?_
    show Steps p.tables e below (T1.setTop (mkF m 11 #[.val (.ref a1), .val (.ref a2), .unset] [(.int (0 : Int32))])) _
    refine XS.ifNo X1.here hx rfl (hb hby own_d27_11) rfl ((if0 _ _).trans (teq (by decide : (0 : Int32) = (0 : Int32))).2) ?_
    show Steps p.tables e below (T1.setTop (mkF m 14 #[.val (.ref a1), .val (.ref a2), .unset] [])) _
    refine XS.iconst X1.here hx rfl (hb hby own_d27_14) ?_
    show Steps p.tables e below (T1.setTop (mkF m 15 #[.val (.ref a1), .val (.ref a2), .unset] [(.int (0 : Int32))])) _
    exact retN X1 hx (t := .boolean) Bd.returns (by simp) (hb hby own_d27_15) hr
  · show own_vT_Q27 Z a1 a2 h0 n0 _ T1.heap _
    rw [e1]
    exact ⟨(by rw [own_vT_f27]), N0, rfl⟩
-- body 27, variant N
theorem own_vN_ef27 (m : MethodId) (x0 : Addr) : entryFrame m #[(.ref x0), .null] 3 = mkF m 0 #[.val (.ref x0), .val .null, .unset] [] := by first | (simp [entryFrame, mkF, argsToLocals, Value.category]; done) | rfl
def own_vN_f27 : Int32 := (0 : Int32)
def own_vN_Q27 (Z : State) (a1 : Addr) (h0 : Heap) (n0 : Nat) (v : Option Value) (h : Heap) (L : List Loc) : Prop := v = some (.int (own_vN_f27)) ∧ Fr n0 L ∧ h = h0
set_option maxRecDepth 65536 in
set_option maxHeartbeats 40000000 in
theorem own_vN_rm27 (l : Launch) (Z : State) (a0 : Array Value) (hw : ∀ d ∈ tables_1, d.before a0 Z = true) (ws : List Jvm.Cond) (a1 : Addr) (h0 : Heap) (n0 : Nat) (Z0 : n0 ≤ h0.size) :
    MetFree l (⟨"com/example/nanshe/nanshe/engine/Request", "equals", "(Ljava/lang/Object;)Z"⟩ : MethodName) (head1 (Jvm.Cond.code (⟨"com/example/nanshe/nanshe/engine/Request", "equals", "(Ljava/lang/Object;)Z"⟩ : MethodName) prog_7_method_5_code 3 (some .boolean) :: ws) ({ frames := 0, cells := 0, slots := 0, locals := 0 } : Room)) (fun a U => a = #[(.ref a1), .null] ∧ Z.Warmed39 U.vm ∧ U.heap = h0) (fun _ _ _ _ _ => True) (fun _ U o U' => ∃ v L, o = .returned v ∧ own_vN_Q27 Z a1 h0 n0 v U'.heap L ∧ FrameEnd U o U' L ({ frames := 0, cells := 0, slots := 0, locals := 0 } : Room).cells ({ frames := 0, cells := 0, slots := 0, locals := 0 } : Room).slots) := by
  refine MetFree.of_bodySF (plainFor_of_name own_pn227) hisR ?_
  intro p e s m args below meth c s₁ Bd hml0 hP hK
  obtain ⟨rfl, hZ, hh⟩ := hP
  have hx := Bd.exec
  have hby := Bd.bytes
  have hml : c.maxLocals = 3 := hml0
  have hown : s.vm.findClass "com/example/nanshe/nanshe/engine/Request" = some m.cls := findClass_of_methodNamed Bd.named
  have hnm := (name_of_methodNamed Bd.named Bd.method).1
  have X0 : Stand p l e ({ frames := 0, cells := 0, slots := 0, locals := 0 } : Room) s m #[(.ref a1), .null] below meth c s₁ [] 0 0 := Stand.of_body Bd
  have hS0 : s.Since s.vm 0 := (State.WarmedH.refl s).since 0
  have hk0 : 0 ≤ h0.size := Nat.zero_le _
  have hlk := Bd.notSynchronized
  have e0 : s₁.heap = h0 := by rw [← hh, Bd.state]; rfl
  have N0 := Fr.nil n0
  have pre0 : ∀ t, Steps p.tables e below (s₁.setTop (mkF m 0 #[.val (.ref a1), .val .null, .unset] [])) t → Steps p.tables e below (s₁.setTop (entryFrame m #[(.ref a1), .null] 3)) t := fun t k => castTop (own_vN_ef27 m a1) k
  obtain ⟨fs, hr, hrun, hended, hW, hsame⟩ := X0.leave (hlocks := hlk) (v := some (.int (0 : Int32))) (fun h => by rw [Bd.returns] at h; cases h)
  refine ⟨_, _, pre0 _ ?_, hrun, hended, _, _, rfl, ?_, ⟨_, rfl⟩, hW, hsame.mono (by decide) (by decide)⟩
  · show Steps p.tables e below (s₁.setTop (mkF m 0 #[.val (.ref a1), .val .null, .unset] [])) _
    refine XS.aloadN X0.here hx rfl (hb hby own_d27_0) rfl rfl ?_
    show Steps p.tables e below (s₁.setTop (mkF m 1 #[.val (.ref a1), .val .null, .unset] [(.ref a1)])) _
    refine XS.aloadN X0.here hx rfl (hb hby own_d27_1) rfl rfl ?_
    show Steps p.tables e below (s₁.setTop (mkF m 2 #[.val (.ref a1), .val .null, .unset] [.null, (.ref a1)])) _
    refine Jvm.RoadKit.acmp (g := (mkF m 2 #[.val (.ref a1), .val .null, .unset] [.null, (.ref a1)])) X0 hx rfl rfl rfl (pc0 := 2) (pc' := 7) (same := false) rfl (hb hby own_d27_2) rfl (decide_eq_false nofun) (by decide) (by decide) ?_
    show Steps p.tables e below (s₁.setTop (mkF m 7 #[.val (.ref a1), .val .null, .unset] [])) _
    refine XS.aloadN X0.here hx rfl (hb hby own_d27_7) rfl rfl ?_
    show Steps p.tables e below (s₁.setTop (mkF m 8 #[.val (.ref a1), .val .null, .unset] [.null])) _
    refine X0.instanceofNull hx (g := (mkF m 8 #[.val (.ref a1), .val .null, .unset] [.null])) rfl rfl (hb hby own_d27_8) _ ?_
    show Steps p.tables e below (s₁.setTop (mkF m 11 #[.val (.ref a1), .val .null, .unset] [(.int (0 : Int32))])) _
    refine XS.ifNo X0.here hx rfl (hb hby own_d27_11) rfl ((if0 _ _).trans (teq (by decide : (0 : Int32) = (0 : Int32))).2) ?_
    show Steps p.tables e below (s₁.setTop (mkF m 14 #[.val (.ref a1), .val .null, .unset] [])) _
    refine XS.iconst X0.here hx rfl (hb hby own_d27_14) ?_
    show Steps p.tables e below (s₁.setTop (mkF m 15 #[.val (.ref a1), .val .null, .unset] [(.int (0 : Int32))])) _
    exact retN X0 hx (t := .boolean) Bd.returns (by simp) (hb hby own_d27_15) hr
  · show own_vN_Q27 Z a1 h0 n0 _ s₁.heap _
    rw [e0]
    exact ⟨(by rw [own_vN_f27]), N0, rfl⟩
-- body 26
theorem own_d26_0 : decode method_6_code 0 = .ok (.iload_n 0, 1) := by decide +kernel
theorem own_d26_1 : decode method_6_code 1 = .ok (.invokestatic 26, 3) := by decide +kernel
theorem own_d26_4 : decode method_6_code 4 = .ok (.iload_n 1, 1) := by decide +kernel
theorem own_d26_5 : decode method_6_code 5 = .ok (.invokestatic 26, 3) := by decide +kernel
theorem own_d26_8 : decode method_6_code 8 = .ok (.if_icmp .eq 5, 3) := by decide +kernel
theorem own_d26_11 : decode method_6_code 11 = .ok (.iconst 0, 1) := by decide +kernel
theorem own_d26_12 : decode method_6_code 12 = .ok (.ireturn, 1) := by decide +kernel
theorem own_d26_13 : decode method_6_code 13 = .ok (.iload_n 0, 1) := by decide +kernel
theorem own_d26_14 : decode method_6_code 14 = .ok (.invokestatic 30, 3) := by decide +kernel
theorem own_d26_17 : decode method_6_code 17 = .ok (.iload_n 1, 1) := by decide +kernel
theorem own_d26_18 : decode method_6_code 18 = .ok (.invokestatic 30, 3) := by decide +kernel
theorem own_d26_21 : decode method_6_code 21 = .ok (.if_icmp .eq 5, 3) := by decide +kernel
theorem own_d26_24 : decode method_6_code 24 = .ok (.iconst 0, 1) := by decide +kernel
theorem own_d26_25 : decode method_6_code 25 = .ok (.ireturn, 1) := by decide +kernel
theorem own_d26_26 : decode method_6_code 26 = .ok (.iload_n 0, 1) := by decide +kernel
theorem own_d26_27 : decode method_6_code 27 = .ok (.invokestatic 26, 3) := by decide +kernel
theorem own_d26_30 : decode method_6_code 30 = .ok (.iconst 2, 1) := by decide +kernel
theorem own_d26_31 : decode method_6_code 31 = .ok (.if_icmp .ne 26, 3) := by decide +kernel
theorem own_d26_34 : decode method_6_code 34 = .ok (.iload_n 0, 1) := by decide +kernel
theorem own_d26_35 : decode method_6_code 35 = .ok (.bipush 8, 2) := by decide +kernel
theorem own_d26_37 : decode method_6_code 37 = .ok (.iushr, 1) := by decide +kernel
theorem own_d26_38 : decode method_6_code 38 = .ok (.invokestatic 30, 3) := by decide +kernel
theorem own_d26_41 : decode method_6_code 41 = .ok (.iload_n 1, 1) := by decide +kernel
theorem own_d26_42 : decode method_6_code 42 = .ok (.bipush 8, 2) := by decide +kernel
theorem own_d26_44 : decode method_6_code 44 = .ok (.iushr, 1) := by decide +kernel
theorem own_d26_45 : decode method_6_code 45 = .ok (.invokestatic 30, 3) := by decide +kernel
theorem own_d26_48 : decode method_6_code 48 = .ok (.if_icmp .ne 7, 3) := by decide +kernel
theorem own_d26_51 : decode method_6_code 51 = .ok (.iconst 1, 1) := by decide +kernel
theorem own_d26_52 : decode method_6_code 52 = .ok (.goto 4, 3) := by decide +kernel
theorem own_d26_55 : decode method_6_code 55 = .ok (.iconst 0, 1) := by decide +kernel
theorem own_d26_56 : decode method_6_code 56 = .ok (.ireturn, 1) := by decide +kernel
theorem own_d26_57 : decode method_6_code 57 = .ok (.iconst 1, 1) := by decide +kernel
theorem own_d26_58 : decode method_6_code 58 = .ok (.ireturn, 1) := by decide +kernel
theorem own_ef26 (m : MethodId) (x0 : Int32) (x1 : Int32) : entryFrame m #[(.int x0), (.int x1)] 2 = mkF m 0 #[.val (.int x0), .val (.int x1)] [] := by first | (simp [entryFrame, mkF, argsToLocals, Value.category]; done) | rfl
def own_f26 (p1 : Int32) (p2 : Int32) : Int32 := if (own_f2 p1) = (own_f2 p2) then (if (own_f3 p1) = (own_f3 p2) then (if (own_f2 p1) = (2 : Int32) then (if (own_f3 ((p1.toUInt32 >>> ((8 : Int32) &&& 31).toUInt32).toInt32)) = (own_f3 ((p2.toUInt32 >>> ((8 : Int32) &&& 31).toUInt32).toInt32)) then (1 : Int32)
          else (0 : Int32))
        else (1 : Int32))
      else (0 : Int32))
    else (0 : Int32)
def own_Q26 (Z : State) (p1 : Int32) (p2 : Int32) (h0 : Heap) (n0 : Nat) (v : Option Value) (h : Heap) (L : List Loc) : Prop := v = some (.int (own_f26 p1 p2)) ∧ Fr n0 L ∧ h = h0
set_option maxRecDepth 65536 in
set_option maxHeartbeats 40000000 in
theorem own_rm26 (l : Launch) (Z : State) (a0 : Array Value) (hw : ∀ d ∈ tables_1, d.before a0 Z = true) (ws : List Jvm.Cond) (p1 : Int32) (p2 : Int32) (h0 : Heap) (n0 : Nat) (Z0 : n0 ≤ h0.size) :
    MetFree l (⟨"com/example/nanshe/nanshe/engine/RequestEqualsPinLaw", "same", "(II)Z"⟩ : MethodName) (head1 (Jvm.Cond.code (⟨"com/example/nanshe/nanshe/engine/RequestEqualsPinLaw", "same", "(II)Z"⟩ : MethodName) method_6_code 2 (some .boolean) :: ws) ({ frames := 1, cells := 0, slots := 0, locals := 14 } : Room)) (fun a U => a = #[(.int p1), (.int p2)] ∧ Z.Warmed39 U.vm ∧ U.heap = h0) (fun _ _ _ _ _ => True) (fun _ U o U' => ∃ v L, o = .returned v ∧ own_Q26 Z p1 p2 h0 n0 v U'.heap L ∧ FrameEnd U o U' L ({ frames := 1, cells := 0, slots := 0, locals := 14 } : Room).cells ({ frames := 1, cells := 0, slots := 0, locals := 14 } : Room).slots) := by
  refine MetFree.of_bodySF (plainFor_of_name own_pn0) hisR ?_
  intro p e s m args below meth c s₁ Bd hml0 hP hK
  obtain ⟨rfl, hZ, hh⟩ := hP
  have hx := Bd.exec
  have hby := Bd.bytes
  have hml : c.maxLocals = 2 := hml0
  have hown : s.vm.findClass "com/example/nanshe/nanshe/engine/RequestEqualsPinLaw" = some m.cls := findClass_of_methodNamed Bd.named
  have hnm := (name_of_methodNamed Bd.named Bd.method).1
  have X0 : Stand p l e ({ frames := 1, cells := 0, slots := 0, locals := 14 } : Room) s m #[(.int p1), (.int p2)] below meth c s₁ [] 0 0 := Stand.of_body Bd
  have hS0 : s.Since s.vm 0 := (State.WarmedH.refl s).since 0
  have hk0 : 0 ≤ h0.size := Nat.zero_le _
  have hlk := Bd.notSynchronized
  have e0 : s₁.heap = h0 := by rw [← hh, Bd.state]; rfl
  have N0 := Fr.nil n0
  have pre0 : ∀ t, Steps p.tables e below (s₁.setTop (mkF m 0 #[.val (.int p1), .val (.int p2)] [])) t → Steps p.tables e below (s₁.setTop (entryFrame m #[(.int p1), (.int p2)] 2)) t := fun t k => castTop (own_ef26 m p1 p2) k
  obtain ⟨v1, _, ⟨T1, L1, k1, n1⟩, -, X1, ⟨Lc1, hQ1, l1, y1, z1⟩, st1⟩ := Jvm.LawKit.callS X0 hx (y := (⟨"com/example/nanshe/nanshe/engine/RequestEqualsPinLaw", "len", "(I)I"⟩ : MethodName)) hown (mvT hZ (hw _ (List.mem_of_getElem? (i := 7) rfl))) (mvT hZ (hw _ (List.mem_of_getElem? (i := 8) rfl))) (mvT hZ (hw _ (List.mem_of_getElem? (i := 5) rfl))) (mvT hZ (hw _ (List.mem_of_getElem? (i := 9) rfl))) (by decide) (backOf (W := 0) (own_rm2 l Z a0 hw [] p1 h0 n0 Z0) hZ (hw _ (List.mem_of_getElem? (i := 9) rfl)) (hw _ (List.mem_of_getElem? (i := 5) rfl)) (by decide) (by decide)) (g := (mkF m 1 #[.val (.int p1), .val (.int p2)] [(.int p1)])) rfl (by rw [hml]; rfl) (argsL := [(.int p1)]) (rest := []) (lenOf own_pd109 rfl) rfl (by show 2 * 0 + _ ≤ _; exact Nat.le_of_eq rfl) (hb hby own_d26_1) (fun _ _ => ⟨rfl, e0, (by decide : 0 + 0 ≤ _), (by decide : 0 + 0 ≤ _)⟩)
  dsimp only [Pt.U, Pt.locs, Pt.cells, Pt.slots] at X1 l1 y1 z1 st1 hQ1
  subst l1 y1 z1
  obtain ⟨rfl, N1q, e1⟩ := hQ1
  have N2 := Fr.app N0 N1q
  obtain ⟨v3, _, ⟨T3, L3, k3, n3⟩, -, X3, ⟨Lc3, hQ3, l3, y3, z3⟩, st3⟩ := Jvm.LawKit.callS X1 hx (y := (⟨"com/example/nanshe/nanshe/engine/RequestEqualsPinLaw", "len", "(I)I"⟩ : MethodName)) hown (mvT hZ (hw _ (List.mem_of_getElem? (i := 7) rfl))) (mvT hZ (hw _ (List.mem_of_getElem? (i := 8) rfl))) (mvT hZ (hw _ (List.mem_of_getElem? (i := 5) rfl))) (mvT hZ (hw _ (List.mem_of_getElem? (i := 9) rfl))) (by decide) (backOf (W := 1) (own_rm2 l Z a0 hw [] p2 h0 n0 Z0) hZ (hw _ (List.mem_of_getElem? (i := 9) rfl)) (hw _ (List.mem_of_getElem? (i := 5) rfl)) (by decide) (by decide)) (g := (mkF m 5 #[.val (.int p1), .val (.int p2)] [(.int p2), (.int (own_f2 p1))])) rfl (by rw [hml]; rfl) (argsL := [(.int p2)]) (rest := [(.int (own_f2 p1))]) (lenOf own_pd109 rfl) rfl (by show 2 * 0 + _ ≤ _; exact Nat.le_of_eq rfl) (hb hby own_d26_5) (fun _ _ => ⟨rfl, e1, (by decide : 0 + 0 ≤ _), (by decide : 0 + 0 ≤ _)⟩)
  dsimp only [Pt.U, Pt.locs, Pt.cells, Pt.slots] at X3 l3 y3 z3 st3 hQ3
  subst l3 y3 z3
  obtain ⟨rfl, N3q, e3⟩ := hQ3
  have N4 := Fr.app N2 N3q
  have k5 : ∀ t, Steps p.tables e below (T3.setTop (mkF m 8 #[.val (.int p1), .val (.int p2)] [(.int (own_f2 p2)), (.int (own_f2 p1))])) t → Steps p.tables e below (s₁.setTop (entryFrame m #[(.int p1), (.int p2)] 2)) t := by
    intro t kt
    refine pre0 t ?_
    show Steps p.tables e below (s₁.setTop (mkF m 0 #[.val (.int p1), .val (.int p2)] [])) _
    refine XS.iloadN X0.here hx rfl (hb hby own_d26_0) rfl ?_
    show Steps p.tables e below (s₁.setTop (mkF m 1 #[.val (.int p1), .val (.int p2)] [(.int p1)])) _
    refine st1 _ ?_
    show Steps p.tables e below (T1.setTop (mkF m 4 #[.val (.int p1), .val (.int p2)] [(.int (own_f2 p1))])) _
    refine XS.iloadN X1.here hx rfl (hb hby own_d26_4) rfl ?_
    show Steps p.tables e below (T1.setTop (mkF m 5 #[.val (.int p1), .val (.int p2)] [(.int p2), (.int (own_f2 p1))])) _
    refine st3 _ ?_
    exact kt
  by_cases hc1 : (own_f2 p1) = (own_f2 p2)
  ·
    obtain ⟨v6, _, ⟨T6, L6, k6, n6⟩, -, X6, ⟨Lc6, hQ6, l6, y6, z6⟩, st6⟩ := Jvm.LawKit.callS X3 hx (y := (⟨"com/example/nanshe/nanshe/engine/RequestEqualsPinLaw", "safe", "(I)C"⟩ : MethodName)) hown (mvT hZ (hw _ (List.mem_of_getElem? (i := 11) rfl))) (mvT hZ (hw _ (List.mem_of_getElem? (i := 12) rfl))) (mvT hZ (hw _ (List.mem_of_getElem? (i := 5) rfl))) (mvT hZ (hw _ (List.mem_of_getElem? (i := 13) rfl))) (by decide) (backOf (W := 0) (own_rm3 l Z a0 hw [] p1 h0 n0 Z0) hZ (hw _ (List.mem_of_getElem? (i := 13) rfl)) (hw _ (List.mem_of_getElem? (i := 5) rfl)) (by decide) (by decide)) (g := (mkF m 14 #[.val (.int p1), .val (.int p2)] [(.int p1)])) rfl (by rw [hml]; rfl) (argsL := [(.int p1)]) (rest := []) (lenOf own_pd110 rfl) rfl (by show 2 * 0 + _ ≤ _; exact Nat.le_of_eq rfl) (hb hby own_d26_14) (fun _ _ => ⟨rfl, e3, (by decide : 0 + 0 ≤ _), (by decide : 0 + 0 ≤ _)⟩)
    dsimp only [Pt.U, Pt.locs, Pt.cells, Pt.slots] at X6 l6 y6 z6 st6 hQ6
    subst l6 y6 z6
    obtain ⟨rfl, N6q, e6⟩ := hQ6
    have N7 := Fr.app N4 N6q
    obtain ⟨v8, _, ⟨T8, L8, k8, n8⟩, -, X8, ⟨Lc8, hQ8, l8, y8, z8⟩, st8⟩ := Jvm.LawKit.callS X6 hx (y := (⟨"com/example/nanshe/nanshe/engine/RequestEqualsPinLaw", "safe", "(I)C"⟩ : MethodName)) hown (mvT hZ (hw _ (List.mem_of_getElem? (i := 11) rfl))) (mvT hZ (hw _ (List.mem_of_getElem? (i := 12) rfl))) (mvT hZ (hw _ (List.mem_of_getElem? (i := 5) rfl))) (mvT hZ (hw _ (List.mem_of_getElem? (i := 13) rfl))) (by decide) (backOf (W := 1) (own_rm3 l Z a0 hw [] p2 h0 n0 Z0) hZ (hw _ (List.mem_of_getElem? (i := 13) rfl)) (hw _ (List.mem_of_getElem? (i := 5) rfl)) (by decide) (by decide)) (g := (mkF m 18 #[.val (.int p1), .val (.int p2)] [(.int p2), (.int (own_f3 p1))])) rfl (by rw [hml]; rfl) (argsL := [(.int p2)]) (rest := [(.int (own_f3 p1))]) (lenOf own_pd110 rfl) rfl (by show 2 * 0 + _ ≤ _; exact Nat.le_of_eq rfl) (hb hby own_d26_18) (fun _ _ => ⟨rfl, e6, (by decide : 0 + 0 ≤ _), (by decide : 0 + 0 ≤ _)⟩)
    dsimp only [Pt.U, Pt.locs, Pt.cells, Pt.slots] at X8 l8 y8 z8 st8 hQ8
    subst l8 y8 z8
    obtain ⟨rfl, N8q, e8⟩ := hQ8
    have N9 := Fr.app N7 N8q
    have k10 : ∀ t, Steps p.tables e below (T8.setTop (mkF m 21 #[.val (.int p1), .val (.int p2)] [(.int (own_f3 p2)), (.int (own_f3 p1))])) t → Steps p.tables e below (s₁.setTop (entryFrame m #[(.int p1), (.int p2)] 2)) t := by
      intro t kt
      refine k5 t ?_
      show Steps p.tables e below (T3.setTop (mkF m 8 #[.val (.int p1), .val (.int p2)] [(.int (own_f2 p2)), (.int (own_f2 p1))])) _
      refine XS.icmpYes X3.here hx rfl (pc0 := 8) (pc' := 13) rfl (hb hby own_d26_8) rfl (teq hc1).1 (by decide) (by decide) ?_
      show Steps p.tables e below (T3.setTop (mkF m 13 #[.val (.int p1), .val (.int p2)] [])) _
      refine XS.iloadN X3.here hx rfl (hb hby own_d26_13) rfl ?_
      show Steps p.tables e below (T3.setTop (mkF m 14 #[.val (.int p1), .val (.int p2)] [(.int p1)])) _
      refine st6 _ ?_
      show Steps p.tables e below (T6.setTop (mkF m 17 #[.val (.int p1), .val (.int p2)] [(.int (own_f3 p1))])) _
      refine XS.iloadN X6.here hx rfl (hb hby own_d26_17) rfl ?_
      show Steps p.tables e below (T6.setTop (mkF m 18 #[.val (.int p1), .val (.int p2)] [(.int p2), (.int (own_f3 p1))])) _
      refine st8 _ ?_
      exact kt
    by_cases hc2 : (own_f3 p1) = (own_f3 p2)
    ·
      obtain ⟨v11, _, ⟨T11, L11, k11, n11⟩, -, X11, ⟨Lc11, hQ11, l11, y11, z11⟩, st11⟩ := Jvm.LawKit.callS X8 hx (y := (⟨"com/example/nanshe/nanshe/engine/RequestEqualsPinLaw", "len", "(I)I"⟩ : MethodName)) hown (mvT hZ (hw _ (List.mem_of_getElem? (i := 7) rfl))) (mvT hZ (hw _ (List.mem_of_getElem? (i := 8) rfl))) (mvT hZ (hw _ (List.mem_of_getElem? (i := 5) rfl))) (mvT hZ (hw _ (List.mem_of_getElem? (i := 9) rfl))) (by decide) (backOf (W := 0) (own_rm2 l Z a0 hw [] p1 h0 n0 Z0) hZ (hw _ (List.mem_of_getElem? (i := 9) rfl)) (hw _ (List.mem_of_getElem? (i := 5) rfl)) (by decide) (by decide)) (g := (mkF m 27 #[.val (.int p1), .val (.int p2)] [(.int p1)])) rfl (by rw [hml]; rfl) (argsL := [(.int p1)]) (rest := []) (lenOf own_pd109 rfl) rfl (by show 2 * 0 + _ ≤ _; exact Nat.le_of_eq rfl) (hb hby own_d26_27) (fun _ _ => ⟨rfl, e8, (by decide : 0 + 0 ≤ _), (by decide : 0 + 0 ≤ _)⟩)
      dsimp only [Pt.U, Pt.locs, Pt.cells, Pt.slots] at X11 l11 y11 z11 st11 hQ11
      subst l11 y11 z11
      obtain ⟨rfl, N11q, e11⟩ := hQ11
      have N12 := Fr.app N9 N11q
      have k13 : ∀ t, Steps p.tables e below (T11.setTop (mkF m 31 #[.val (.int p1), .val (.int p2)] [(.int (2 : Int32)), (.int (own_f2 p1))])) t → Steps p.tables e below (s₁.setTop (entryFrame m #[(.int p1), (.int p2)] 2)) t := by
        intro t kt
        refine k10 t ?_
        show Steps p.tables e below (T8.setTop (mkF m 21 #[.val (.int p1), .val (.int p2)] [(.int (own_f3 p2)), (.int (own_f3 p1))])) _
        refine XS.icmpYes X8.here hx rfl (pc0 := 21) (pc' := 26) rfl (hb hby own_d26_21) rfl (teq hc2).1 (by decide) (by decide) ?_
        show Steps p.tables e below (T8.setTop (mkF m 26 #[.val (.int p1), .val (.int p2)] [])) _
        refine XS.iloadN X8.here hx rfl (hb hby own_d26_26) rfl ?_
        show Steps p.tables e below (T8.setTop (mkF m 27 #[.val (.int p1), .val (.int p2)] [(.int p1)])) _
        refine st11 _ ?_
        show Steps p.tables e below (T11.setTop (mkF m 30 #[.val (.int p1), .val (.int p2)] [(.int (own_f2 p1))])) _
        refine XS.iconst X11.here hx rfl (hb hby own_d26_30) ?_
        exact kt
      by_cases hc3 : (own_f2 p1) = (2 : Int32)
      ·
        obtain ⟨v14, _, ⟨T14, L14, k14, n14⟩, -, X14, ⟨Lc14, hQ14, l14, y14, z14⟩, st14⟩ := Jvm.LawKit.callS X11 hx (y := (⟨"com/example/nanshe/nanshe/engine/RequestEqualsPinLaw", "safe", "(I)C"⟩ : MethodName)) hown (mvT hZ (hw _ (List.mem_of_getElem? (i := 11) rfl))) (mvT hZ (hw _ (List.mem_of_getElem? (i := 12) rfl))) (mvT hZ (hw _ (List.mem_of_getElem? (i := 5) rfl))) (mvT hZ (hw _ (List.mem_of_getElem? (i := 13) rfl))) (by decide) (backOf (W := 0) (own_rm3 l Z a0 hw [] ((p1.toUInt32 >>> ((8 : Int32) &&& 31).toUInt32).toInt32) h0 n0 Z0) hZ (hw _ (List.mem_of_getElem? (i := 13) rfl)) (hw _ (List.mem_of_getElem? (i := 5) rfl)) (by decide) (by decide)) (g := (mkF m 38 #[.val (.int p1), .val (.int p2)] [(.int ((p1.toUInt32 >>> ((8 : Int32) &&& 31).toUInt32).toInt32))])) rfl (by rw [hml]; rfl) (argsL := [(.int ((p1.toUInt32 >>> ((8 : Int32) &&& 31).toUInt32).toInt32))]) (rest := []) (lenOf own_pd110 rfl) rfl (by show 2 * 0 + _ ≤ _; exact Nat.le_of_eq rfl) (hb hby own_d26_38) (fun _ _ => ⟨rfl, e11, (by decide : 0 + 0 ≤ _), (by decide : 0 + 0 ≤ _)⟩)
        dsimp only [Pt.U, Pt.locs, Pt.cells, Pt.slots] at X14 l14 y14 z14 st14 hQ14
        subst l14 y14 z14
        obtain ⟨rfl, N14q, e14⟩ := hQ14
        have N15 := Fr.app N12 N14q
        obtain ⟨v16, _, ⟨T16, L16, k16, n16⟩, -, X16, ⟨Lc16, hQ16, l16, y16, z16⟩, st16⟩ := Jvm.LawKit.callS X14 hx (y := (⟨"com/example/nanshe/nanshe/engine/RequestEqualsPinLaw", "safe", "(I)C"⟩ : MethodName)) hown (mvT hZ (hw _ (List.mem_of_getElem? (i := 11) rfl))) (mvT hZ (hw _ (List.mem_of_getElem? (i := 12) rfl))) (mvT hZ (hw _ (List.mem_of_getElem? (i := 5) rfl))) (mvT hZ (hw _ (List.mem_of_getElem? (i := 13) rfl))) (by decide) (backOf (W := 1) (own_rm3 l Z a0 hw [] ((p2.toUInt32 >>> ((8 : Int32) &&& 31).toUInt32).toInt32) h0 n0 Z0) hZ (hw _ (List.mem_of_getElem? (i := 13) rfl)) (hw _ (List.mem_of_getElem? (i := 5) rfl)) (by decide) (by decide)) (g := (mkF m 45 #[.val (.int p1), .val (.int p2)] [(.int ((p2.toUInt32 >>> ((8 : Int32) &&& 31).toUInt32).toInt32)), (.int (own_f3 ((p1.toUInt32 >>> ((8 : Int32) &&& 31).toUInt32).toInt32)))])) rfl (by rw [hml]; rfl) (argsL := [(.int ((p2.toUInt32 >>> ((8 : Int32) &&& 31).toUInt32).toInt32))]) (rest := [(.int (own_f3 ((p1.toUInt32 >>> ((8 : Int32) &&& 31).toUInt32).toInt32)))]) (lenOf own_pd110 rfl) rfl (by show 2 * 0 + _ ≤ _; exact Nat.le_of_eq rfl) (hb hby own_d26_45) (fun _ _ => ⟨rfl, e14, (by decide : 0 + 0 ≤ _), (by decide : 0 + 0 ≤ _)⟩)
        dsimp only [Pt.U, Pt.locs, Pt.cells, Pt.slots] at X16 l16 y16 z16 st16 hQ16
        subst l16 y16 z16
        obtain ⟨rfl, N16q, e16⟩ := hQ16
        have N17 := Fr.app N15 N16q
        have k18 : ∀ t, Steps p.tables e below (T16.setTop (mkF m 48 #[.val (.int p1), .val (.int p2)] [(.int (own_f3 ((p2.toUInt32 >>> ((8 : Int32) &&& 31).toUInt32).toInt32))), (.int (own_f3 ((p1.toUInt32 >>> ((8 : Int32) &&& 31).toUInt32).toInt32)))])) t → Steps p.tables e below (s₁.setTop (entryFrame m #[(.int p1), (.int p2)] 2)) t := by
          intro t kt
          refine k13 t ?_
          show Steps p.tables e below (T11.setTop (mkF m 31 #[.val (.int p1), .val (.int p2)] [(.int (2 : Int32)), (.int (own_f2 p1))])) _
          refine XS.icmpNo X11.here hx rfl (hb hby own_d26_31) rfl (teq hc3).2 ?_
          show Steps p.tables e below (T11.setTop (mkF m 34 #[.val (.int p1), .val (.int p2)] [])) _
          refine XS.iloadN X11.here hx rfl (hb hby own_d26_34) rfl ?_
          show Steps p.tables e below (T11.setTop (mkF m 35 #[.val (.int p1), .val (.int p2)] [(.int p1)])) _
          refine XS.bipush X11.here hx rfl (hb hby own_d26_35) ?_
          show Steps p.tables e below (T11.setTop (mkF m 37 #[.val (.int p1), .val (.int p2)] [(.int (8 : Int32)), (.int p1)])) _
          refine XS.iushr X11.here hx rfl (hb hby own_d26_37) rfl ?_
          show Steps p.tables e below (T11.setTop (mkF m 38 #[.val (.int p1), .val (.int p2)] [(.int ((p1.toUInt32 >>> ((8 : Int32) &&& 31).toUInt32).toInt32))])) _
          refine st14 _ ?_
          show Steps p.tables e below (T14.setTop (mkF m 41 #[.val (.int p1), .val (.int p2)] [(.int (own_f3 ((p1.toUInt32 >>> ((8 : Int32) &&& 31).toUInt32).toInt32)))])) _
          refine XS.iloadN X14.here hx rfl (hb hby own_d26_41) rfl ?_
          show Steps p.tables e below (T14.setTop (mkF m 42 #[.val (.int p1), .val (.int p2)] [(.int p2), (.int (own_f3 ((p1.toUInt32 >>> ((8 : Int32) &&& 31).toUInt32).toInt32)))])) _
          refine XS.bipush X14.here hx rfl (hb hby own_d26_42) ?_
          show Steps p.tables e below (T14.setTop (mkF m 44 #[.val (.int p1), .val (.int p2)] [(.int (8 : Int32)), (.int p2), (.int (own_f3 ((p1.toUInt32 >>> ((8 : Int32) &&& 31).toUInt32).toInt32)))])) _
          refine XS.iushr X14.here hx rfl (hb hby own_d26_44) rfl ?_
          show Steps p.tables e below (T14.setTop (mkF m 45 #[.val (.int p1), .val (.int p2)] [(.int ((p2.toUInt32 >>> ((8 : Int32) &&& 31).toUInt32).toInt32)), (.int (own_f3 ((p1.toUInt32 >>> ((8 : Int32) &&& 31).toUInt32).toInt32)))])) _
          refine st16 _ ?_
          exact kt
        by_cases hc4 : (own_f3 ((p1.toUInt32 >>> ((8 : Int32) &&& 31).toUInt32).toInt32)) = (own_f3 ((p2.toUInt32 >>> ((8 : Int32) &&& 31).toUInt32).toInt32))
        ·
          obtain ⟨fs, hr, hrun, hended, hW, hsame⟩ := X16.leave (hlocks := hlk) (v := some (.int (1 : Int32))) (fun h => by rw [Bd.returns] at h; cases h)
          refine ⟨_, _, k18 _ ?_, hrun, hended, _, _, rfl, ?_, ⟨_, rfl⟩, hW, hsame.mono (by decide) (by decide)⟩
          · show Steps p.tables e below (T16.setTop (mkF m 48 #[.val (.int p1), .val (.int p2)] [(.int (own_f3 ((p2.toUInt32 >>> ((8 : Int32) &&& 31).toUInt32).toInt32))), (.int (own_f3 ((p1.toUInt32 >>> ((8 : Int32) &&& 31).toUInt32).toInt32)))])) _
            refine XS.icmpNo X16.here hx rfl (hb hby own_d26_48) rfl (teq hc4).2 ?_
            show Steps p.tables e below (T16.setTop (mkF m 51 #[.val (.int p1), .val (.int p2)] [])) _
            refine XS.iconst X16.here hx rfl (hb hby own_d26_51) ?_
            show Steps p.tables e below (T16.setTop (mkF m 52 #[.val (.int p1), .val (.int p2)] [(.int (1 : Int32))])) _
            refine XS.goto X16.here hx rfl (pc0 := 52) (pc' := 56) rfl (hb hby own_d26_52) (by decide) (by decide) ?_
            show Steps p.tables e below (T16.setTop (mkF m 56 #[.val (.int p1), .val (.int p2)] [(.int (1 : Int32))])) _
            exact retN X16 hx (t := .boolean) Bd.returns (by simp) (hb hby own_d26_56) hr
          · show own_Q26 Z p1 p2 h0 n0 _ T16.heap _
            rw [e16]
            exact ⟨(by rw [own_f26, if_pos hc1, if_pos hc2, if_pos hc3, if_pos hc4]), N17, rfl⟩
        ·
          obtain ⟨fs, hr, hrun, hended, hW, hsame⟩ := X16.leave (hlocks := hlk) (v := some (.int (0 : Int32))) (fun h => by rw [Bd.returns] at h; cases h)
          refine ⟨_, _, k18 _ ?_, hrun, hended, _, _, rfl, ?_, ⟨_, rfl⟩, hW, hsame.mono (by decide) (by decide)⟩
          · show Steps p.tables e below (T16.setTop (mkF m 48 #[.val (.int p1), .val (.int p2)] [(.int (own_f3 ((p2.toUInt32 >>> ((8 : Int32) &&& 31).toUInt32).toInt32))), (.int (own_f3 ((p1.toUInt32 >>> ((8 : Int32) &&& 31).toUInt32).toInt32)))])) _
            refine XS.icmpYes X16.here hx rfl (pc0 := 48) (pc' := 55) rfl (hb hby own_d26_48) rfl (feq hc4).2 (by decide) (by decide) ?_
            show Steps p.tables e below (T16.setTop (mkF m 55 #[.val (.int p1), .val (.int p2)] [])) _
            refine XS.iconst X16.here hx rfl (hb hby own_d26_55) ?_
            show Steps p.tables e below (T16.setTop (mkF m 56 #[.val (.int p1), .val (.int p2)] [(.int (0 : Int32))])) _
            exact retN X16 hx (t := .boolean) Bd.returns (by simp) (hb hby own_d26_56) hr
          · show own_Q26 Z p1 p2 h0 n0 _ T16.heap _
            rw [e16]
            exact ⟨(by rw [own_f26, if_pos hc1, if_pos hc2, if_pos hc3, if_neg hc4]), N17, rfl⟩
      ·
        obtain ⟨fs, hr, hrun, hended, hW, hsame⟩ := X11.leave (hlocks := hlk) (v := some (.int (1 : Int32))) (fun h => by rw [Bd.returns] at h; cases h)
        refine ⟨_, _, k13 _ ?_, hrun, hended, _, _, rfl, ?_, ⟨_, rfl⟩, hW, hsame.mono (by decide) (by decide)⟩
        · show Steps p.tables e below (T11.setTop (mkF m 31 #[.val (.int p1), .val (.int p2)] [(.int (2 : Int32)), (.int (own_f2 p1))])) _
          refine XS.icmpYes X11.here hx rfl (pc0 := 31) (pc' := 57) rfl (hb hby own_d26_31) rfl (feq hc3).2 (by decide) (by decide) ?_
          show Steps p.tables e below (T11.setTop (mkF m 57 #[.val (.int p1), .val (.int p2)] [])) _
          refine XS.iconst X11.here hx rfl (hb hby own_d26_57) ?_
          show Steps p.tables e below (T11.setTop (mkF m 58 #[.val (.int p1), .val (.int p2)] [(.int (1 : Int32))])) _
          exact retN X11 hx (t := .boolean) Bd.returns (by simp) (hb hby own_d26_58) hr
        · show own_Q26 Z p1 p2 h0 n0 _ T11.heap _
          rw [e11]
          exact ⟨(by rw [own_f26, if_pos hc1, if_pos hc2, if_neg hc3]), N12, rfl⟩
    ·
      obtain ⟨fs, hr, hrun, hended, hW, hsame⟩ := X8.leave (hlocks := hlk) (v := some (.int (0 : Int32))) (fun h => by rw [Bd.returns] at h; cases h)
      refine ⟨_, _, k10 _ ?_, hrun, hended, _, _, rfl, ?_, ⟨_, rfl⟩, hW, hsame.mono (by decide) (by decide)⟩
      · show Steps p.tables e below (T8.setTop (mkF m 21 #[.val (.int p1), .val (.int p2)] [(.int (own_f3 p2)), (.int (own_f3 p1))])) _
        refine XS.icmpNo X8.here hx rfl (hb hby own_d26_21) rfl (feq hc2).1 ?_
        show Steps p.tables e below (T8.setTop (mkF m 24 #[.val (.int p1), .val (.int p2)] [])) _
        refine XS.iconst X8.here hx rfl (hb hby own_d26_24) ?_
        show Steps p.tables e below (T8.setTop (mkF m 25 #[.val (.int p1), .val (.int p2)] [(.int (0 : Int32))])) _
        exact retN X8 hx (t := .boolean) Bd.returns (by simp) (hb hby own_d26_25) hr
      · show own_Q26 Z p1 p2 h0 n0 _ T8.heap _
        rw [e8]
        exact ⟨(by rw [own_f26, if_pos hc1, if_neg hc2]), N9, rfl⟩
  ·
    obtain ⟨fs, hr, hrun, hended, hW, hsame⟩ := X3.leave (hlocks := hlk) (v := some (.int (0 : Int32))) (fun h => by rw [Bd.returns] at h; cases h)
    refine ⟨_, _, k5 _ ?_, hrun, hended, _, _, rfl, ?_, ⟨_, rfl⟩, hW, hsame.mono (by decide) (by decide)⟩
    · show Steps p.tables e below (T3.setTop (mkF m 8 #[.val (.int p1), .val (.int p2)] [(.int (own_f2 p2)), (.int (own_f2 p1))])) _
      refine XS.icmpNo X3.here hx rfl (hb hby own_d26_8) rfl (feq hc1).1 ?_
      show Steps p.tables e below (T3.setTop (mkF m 11 #[.val (.int p1), .val (.int p2)] [])) _
      refine XS.iconst X3.here hx rfl (hb hby own_d26_11) ?_
      show Steps p.tables e below (T3.setTop (mkF m 12 #[.val (.int p1), .val (.int p2)] [(.int (0 : Int32))])) _
      exact retN X3 hx (t := .boolean) Bd.returns (by simp) (hb hby own_d26_12) hr
    · show own_Q26 Z p1 p2 h0 n0 _ T3.heap _
      rw [e3]
      exact ⟨(by rw [own_f26, if_neg hc1]), N4, rfl⟩
-- body 0
theorem own_ef0 (m : MethodId) (x0 : Int32) (x1 : Int32) (x2 : Int32) (x3 : Int32) (x4 : Int32) (x5 : Int32) : entryFrame m #[(.int x0), (.int x1), (.int x2), (.int x3), (.int x4), (.int x5)] maxLocals = mkF m 0 #[.val (.int x0), .val (.int x1), .val (.int x2), .val (.int x3), .val (.int x4), .val (.int x5), .unset, .unset, .unset, .unset, .unset, .unset, .unset] [] := by first | (simp [entryFrame, mkF, argsToLocals, Value.category, maxLocals]; done) | rfl
def own_ps (p1 : Int32) (p4 : Int32) : Int32 := if (((p4.toUInt32 >>> ((24 : Int32) &&& 31).toUInt32).toInt32) &&& (1 : Int32)) = (0 : Int32) then p4 else p1
def own_pa (p2 : Int32) (p5 : Int32) : Int32 := if (((p5.toUInt32 >>> ((24 : Int32) &&& 31).toUInt32).toInt32) &&& (1 : Int32)) = (0 : Int32) then p5 else p2
def own_po (p3 : Int32) (p6 : Int32) : Int32 := if (((p6.toUInt32 >>> ((24 : Int32) &&& 31).toUInt32).toInt32) &&& (1 : Int32)) = (0 : Int32) then p6 else p3
def own_mode (p6 : Int32) : Int32 := (((p6.toUInt32 >>> ((28 : Int32) &&& 31).toUInt32).toInt32) &&& (3 : Int32))
def own_f0 (p1 : Int32) (p2 : Int32) (p3 : Int32) (p4 : Int32) (p5 : Int32) (p6 : Int32) : Int32 := if (own_mode p6) = (1 : Int32) then (1 : Int32)
    else if (own_mode p6) = (2 : Int32) then (1 : Int32)
      else if (own_mode p6) = (3 : Int32) then (1 : Int32)
        else if (own_f26 p1 (own_ps p1 p4)) = (0 : Int32) then (if (own_vR_f27 (own_bs p1) (own_bs (own_ps p1 p4)) (own_bs p2) (own_bs (own_pa p2 p5)) (own_bs p3) (own_bs (own_po p3 p6))) = (0 : Int32) then (if (own_vR_f27 (own_bs (own_ps p1 p4)) (own_bs p1) (own_bs (own_pa p2 p5)) (own_bs p2) (own_bs (own_po p3 p6)) (own_bs p3)) = (0 : Int32) then (1 : Int32)
              else (0 : Int32))
            else (0 : Int32))
          else if (own_f26 p2 (own_pa p2 p5)) = (0 : Int32) then (if (own_vR_f27 (own_bs p1) (own_bs (own_ps p1 p4)) (own_bs p2) (own_bs (own_pa p2 p5)) (own_bs p3) (own_bs (own_po p3 p6))) = (0 : Int32) then (if (own_vR_f27 (own_bs (own_ps p1 p4)) (own_bs p1) (own_bs (own_pa p2 p5)) (own_bs p2) (own_bs (own_po p3 p6)) (own_bs p3)) = (0 : Int32) then (1 : Int32)
                else (0 : Int32))
              else (0 : Int32))
            else if (own_f26 p3 (own_po p3 p6)) = (0 : Int32) then (if (own_vR_f27 (own_bs p1) (own_bs (own_ps p1 p4)) (own_bs p2) (own_bs (own_pa p2 p5)) (own_bs p3) (own_bs (own_po p3 p6))) = (0 : Int32) then (if (own_vR_f27 (own_bs (own_ps p1 p4)) (own_bs p1) (own_bs (own_pa p2 p5)) (own_bs p2) (own_bs (own_po p3 p6)) (own_bs p3)) = (0 : Int32) then (1 : Int32)
                  else (0 : Int32))
                else (0 : Int32))
              else if (own_vR_f27 (own_bs p1) (own_bs (own_ps p1 p4)) (own_bs p2) (own_bs (own_pa p2 p5)) (own_bs p3) (own_bs (own_po p3 p6))) = (1 : Int32) then (if (own_vR_f27 (own_bs (own_ps p1 p4)) (own_bs p1) (own_bs (own_pa p2 p5)) (own_bs p2) (own_bs (own_po p3 p6)) (own_bs p3)) = (1 : Int32) then (1 : Int32)
                  else (0 : Int32))
                else (0 : Int32)
def own_Q0 (Z : State) (p1 : Int32) (p2 : Int32) (p3 : Int32) (p4 : Int32) (p5 : Int32) (p6 : Int32) (w_COMPACT_STRINGS : Int32) (w_SIOOBE_FORMATTER : Value) (h0 : Heap) (n0 : Nat) (v : Option Value) (h : Heap) (L : List Loc) : Prop := v = some (.int (own_f0 p1 p2 p3 p4 p5 p6)) ∧ Fr n0 L
set_option maxRecDepth 65536 in
set_option maxHeartbeats 40000000 in
theorem own_rm0 (l : Launch) (Z : State) (a0 : Array Value) (hw : ∀ d ∈ tables_1, d.before a0 Z = true) (ws : List Jvm.Cond) (p1 : Int32) (p2 : Int32) (p3 : Int32) (p4 : Int32) (p5 : Int32) (p6 : Int32) (w_COMPACT_STRINGS : Int32) (w_SIOOBE_FORMATTER : Value) (h0 : Heap) (n0 : Nat) (Z0 : n0 ≤ h0.size) (O0 : Old Z n0 h0) (hcs : ¬ w_COMPACT_STRINGS = (0 : Int32)) (hrf : w_SIOOBE_FORMATTER.isRef = true) (S_COMPACT_STRINGS : Sta Z Z.heap "java/lang/String" "COMPACT_STRINGS" "Z" (.int w_COMPACT_STRINGS)) (S_SIOOBE_FORMATTER : Sta Z Z.heap "jdk/internal/util/Preconditions" "SIOOBE_FORMATTER" "Ljava/util/function/BiFunction;" w_SIOOBE_FORMATTER) :
    MetFree l x (head1 (Jvm.Cond.code x code maxLocals ret :: ws) room_1) (fun a U => a = #[(.int p1), (.int p2), (.int p3), (.int p4), (.int p5), (.int p6)] ∧ Z.Warmed39 U.vm ∧ U.heap = h0) (fun _ _ _ _ _ => True) (fun _ U o U' => ∃ v L, o = .returned v ∧ own_Q0 Z p1 p2 p3 p4 p5 p6 w_COMPACT_STRINGS w_SIOOBE_FORMATTER h0 n0 v U'.heap L ∧ ReturnedEndW U o U' L room_1.cells room_1.slots) := by
  refine MetFree.of_bodySF (plainFor_of_name own_pn0) hisR ?_
  intro p e s m args below meth c s₁ Bd hml0 hP hK
  obtain ⟨rfl, hZ, hh⟩ := hP
  have hx := Bd.exec
  have hby := Bd.bytes
  have hml : c.maxLocals = 13 := hml0
  have hown : s.vm.findClass "com/example/nanshe/nanshe/engine/RequestEqualsPinLaw" = some m.cls := findClass_of_methodNamed Bd.named
  have hnm := (name_of_methodNamed Bd.named Bd.method).1
  have X0 : Stand p l e room_1 (s.setVm s.vm) m #[(.int p1), (.int p2), (.int p3), (.int p4), (.int p5), (.int p6)] below meth c s₁ [] 0 0 := Stand.of_body Bd
  have hS0 : s.Since s.vm 0 := (State.WarmedH.refl s).since 0
  have hk0 : 0 ≤ h0.size := Nat.zero_le _
  have hlk := Bd.notSynchronized
  have e0 : s₁.heap = h0 := by rw [← hh, Bd.state]; rfl
  have N0 := Fr.nil n0
  have pre0 : ∀ t, Steps p.tables e below (s₁.setTop (mkF m 0 #[.val (.int p1), .val (.int p2), .val (.int p3), .val (.int p4), .val (.int p5), .val (.int p6), .unset, .unset, .unset, .unset, .unset, .unset, .unset] [])) t → Steps p.tables e below (s₁.setTop (entryFrame m #[(.int p1), (.int p2), (.int p3), (.int p4), (.int p5), (.int p6)] maxLocals)) t := fun t k => castTop (own_ef0 m p1 p2 p3 p4 p5 p6) k
  have k1 : ∀ t, Steps p.tables e below (s₁.setTop (mkF m 6 #[.val (.int p1), .val (.int p2), .val (.int p3), .val (.int p4), .val (.int p5), .val (.int p6), .unset, .unset, .unset, .unset, .unset, .unset, .unset] [(.int (((p4.toUInt32 >>> ((24 : Int32) &&& 31).toUInt32).toInt32) &&& (1 : Int32)))])) t → Steps p.tables e below (s₁.setTop (entryFrame m #[(.int p1), (.int p2), (.int p3), (.int p4), (.int p5), (.int p6)] maxLocals)) t := by
    intro t kt
    refine pre0 t ?_
    show Steps p.tables e below (s₁.setTop (mkF m 0 #[.val (.int p1), .val (.int p2), .val (.int p3), .val (.int p4), .val (.int p5), .val (.int p6), .unset, .unset, .unset, .unset, .unset, .unset, .unset] [])) _
    refine XS.iloadN X0.here hx rfl (hb hby at_0) rfl ?_
    show Steps p.tables e below (s₁.setTop (mkF m 1 #[.val (.int p1), .val (.int p2), .val (.int p3), .val (.int p4), .val (.int p5), .val (.int p6), .unset, .unset, .unset, .unset, .unset, .unset, .unset] [(.int p4)])) _
    refine XS.bipush X0.here hx rfl (hb hby at_1) ?_
    show Steps p.tables e below (s₁.setTop (mkF m 3 #[.val (.int p1), .val (.int p2), .val (.int p3), .val (.int p4), .val (.int p5), .val (.int p6), .unset, .unset, .unset, .unset, .unset, .unset, .unset] [(.int (24 : Int32)), (.int p4)])) _
    refine XS.iushr X0.here hx rfl (hb hby at_3) rfl ?_
    show Steps p.tables e below (s₁.setTop (mkF m 4 #[.val (.int p1), .val (.int p2), .val (.int p3), .val (.int p4), .val (.int p5), .val (.int p6), .unset, .unset, .unset, .unset, .unset, .unset, .unset] [(.int ((p4.toUInt32 >>> ((24 : Int32) &&& 31).toUInt32).toInt32))])) _
    refine XS.iconst X0.here hx rfl (hb hby at_4) ?_
    show Steps p.tables e below (s₁.setTop (mkF m 5 #[.val (.int p1), .val (.int p2), .val (.int p3), .val (.int p4), .val (.int p5), .val (.int p6), .unset, .unset, .unset, .unset, .unset, .unset, .unset] [(.int (1 : Int32)), (.int ((p4.toUInt32 >>> ((24 : Int32) &&& 31).toUInt32).toInt32))])) _
    refine XS.iand X0.here hx rfl (hb hby at_5) rfl ?_
    exact kt
  have k2 : ∀ t, Steps p.tables e below (s₁.setTop (mkF m 14 #[.val (.int p1), .val (.int p2), .val (.int p3), .val (.int p4), .val (.int p5), .val (.int p6), .unset, .unset, .unset, .unset, .unset, .unset, .unset] [(.int (own_ps p1 p4))])) t → Steps p.tables e below (s₁.setTop (entryFrame m #[(.int p1), (.int p2), (.int p3), (.int p4), (.int p5), (.int p6)] maxLocals)) t := by
    intro t kt
    by_cases hq : (((p4.toUInt32 >>> ((24 : Int32) &&& 31).toUInt32).toInt32) &&& (1 : Int32)) = (0 : Int32)
    · rw [show (own_ps p1 p4) = p4 from if_pos hq] at kt
      refine k1 t ?_
      show Steps p.tables e below (s₁.setTop (mkF m 6 #[.val (.int p1), .val (.int p2), .val (.int p3), .val (.int p4), .val (.int p5), .val (.int p6), .unset, .unset, .unset, .unset, .unset, .unset, .unset] [(.int (((p4.toUInt32 >>> ((24 : Int32) &&& 31).toUInt32).toInt32) &&& (1 : Int32)))])) _
      refine XS.ifYes X0.here hx rfl (pc0 := 6) (pc' := 13) rfl (hb hby at_6) rfl ((if0 _ _).trans (teq hq).1) (by decide) (by decide) ?_
      show Steps p.tables e below (s₁.setTop (mkF m 13 #[.val (.int p1), .val (.int p2), .val (.int p3), .val (.int p4), .val (.int p5), .val (.int p6), .unset, .unset, .unset, .unset, .unset, .unset, .unset] [])) _
      refine XS.iloadN X0.here hx rfl (hb hby at_13) rfl ?_
      exact kt
    · rw [show (own_ps p1 p4) = p1 from if_neg hq] at kt
      refine k1 t ?_
      show Steps p.tables e below (s₁.setTop (mkF m 6 #[.val (.int p1), .val (.int p2), .val (.int p3), .val (.int p4), .val (.int p5), .val (.int p6), .unset, .unset, .unset, .unset, .unset, .unset, .unset] [(.int (((p4.toUInt32 >>> ((24 : Int32) &&& 31).toUInt32).toInt32) &&& (1 : Int32)))])) _
      refine XS.ifNo X0.here hx rfl (hb hby at_6) rfl ((if0 _ _).trans (feq hq).1) ?_
      show Steps p.tables e below (s₁.setTop (mkF m 9 #[.val (.int p1), .val (.int p2), .val (.int p3), .val (.int p4), .val (.int p5), .val (.int p6), .unset, .unset, .unset, .unset, .unset, .unset, .unset] [])) _
      refine XS.iloadN X0.here hx rfl (hb hby at_9) rfl ?_
      show Steps p.tables e below (s₁.setTop (mkF m 10 #[.val (.int p1), .val (.int p2), .val (.int p3), .val (.int p4), .val (.int p5), .val (.int p6), .unset, .unset, .unset, .unset, .unset, .unset, .unset] [(.int p1)])) _
      refine XS.goto X0.here hx rfl (pc0 := 10) (pc' := 14) rfl (hb hby at_10) (by decide) (by decide) ?_
      exact kt
  have k3 : ∀ t, Steps p.tables e below (s₁.setTop (mkF m 23 #[.val (.int p1), .val (.int p2), .val (.int p3), .val (.int p4), .val (.int p5), .val (.int p6), .val (.int (own_ps p1 p4)), .unset, .unset, .unset, .unset, .unset, .unset] [(.int (((p5.toUInt32 >>> ((24 : Int32) &&& 31).toUInt32).toInt32) &&& (1 : Int32)))])) t → Steps p.tables e below (s₁.setTop (entryFrame m #[(.int p1), (.int p2), (.int p3), (.int p4), (.int p5), (.int p6)] maxLocals)) t := by
    intro t kt
    refine k2 t ?_
    show Steps p.tables e below (s₁.setTop (mkF m 14 #[.val (.int p1), .val (.int p2), .val (.int p3), .val (.int p4), .val (.int p5), .val (.int p6), .unset, .unset, .unset, .unset, .unset, .unset, .unset] [(.int (own_ps p1 p4))])) _
    refine XS.istore X0.here hx rfl (hb hby at_14) rfl (l' := #[.val (.int p1), .val (.int p2), .val (.int p3), .val (.int p4), .val (.int p5), .val (.int p6), .val (.int (own_ps p1 p4)), .unset, .unset, .unset, .unset, .unset, .unset]) rfl ?_
    show Steps p.tables e below (s₁.setTop (mkF m 16 #[.val (.int p1), .val (.int p2), .val (.int p3), .val (.int p4), .val (.int p5), .val (.int p6), .val (.int (own_ps p1 p4)), .unset, .unset, .unset, .unset, .unset, .unset] [])) _
    refine XS.iload X0.here hx rfl (hb hby at_16) rfl ?_
    show Steps p.tables e below (s₁.setTop (mkF m 18 #[.val (.int p1), .val (.int p2), .val (.int p3), .val (.int p4), .val (.int p5), .val (.int p6), .val (.int (own_ps p1 p4)), .unset, .unset, .unset, .unset, .unset, .unset] [(.int p5)])) _
    refine XS.bipush X0.here hx rfl (hb hby at_18) ?_
    show Steps p.tables e below (s₁.setTop (mkF m 20 #[.val (.int p1), .val (.int p2), .val (.int p3), .val (.int p4), .val (.int p5), .val (.int p6), .val (.int (own_ps p1 p4)), .unset, .unset, .unset, .unset, .unset, .unset] [(.int (24 : Int32)), (.int p5)])) _
    refine XS.iushr X0.here hx rfl (hb hby at_20) rfl ?_
    show Steps p.tables e below (s₁.setTop (mkF m 21 #[.val (.int p1), .val (.int p2), .val (.int p3), .val (.int p4), .val (.int p5), .val (.int p6), .val (.int (own_ps p1 p4)), .unset, .unset, .unset, .unset, .unset, .unset] [(.int ((p5.toUInt32 >>> ((24 : Int32) &&& 31).toUInt32).toInt32))])) _
    refine XS.iconst X0.here hx rfl (hb hby at_21) ?_
    show Steps p.tables e below (s₁.setTop (mkF m 22 #[.val (.int p1), .val (.int p2), .val (.int p3), .val (.int p4), .val (.int p5), .val (.int p6), .val (.int (own_ps p1 p4)), .unset, .unset, .unset, .unset, .unset, .unset] [(.int (1 : Int32)), (.int ((p5.toUInt32 >>> ((24 : Int32) &&& 31).toUInt32).toInt32))])) _
    refine XS.iand X0.here hx rfl (hb hby at_22) rfl ?_
    exact kt
  have k4 : ∀ t, Steps p.tables e below (s₁.setTop (mkF m 32 #[.val (.int p1), .val (.int p2), .val (.int p3), .val (.int p4), .val (.int p5), .val (.int p6), .val (.int (own_ps p1 p4)), .unset, .unset, .unset, .unset, .unset, .unset] [(.int (own_pa p2 p5))])) t → Steps p.tables e below (s₁.setTop (entryFrame m #[(.int p1), (.int p2), (.int p3), (.int p4), (.int p5), (.int p6)] maxLocals)) t := by
    intro t kt
    by_cases hq : (((p5.toUInt32 >>> ((24 : Int32) &&& 31).toUInt32).toInt32) &&& (1 : Int32)) = (0 : Int32)
    · rw [show (own_pa p2 p5) = p5 from if_pos hq] at kt
      refine k3 t ?_
      show Steps p.tables e below (s₁.setTop (mkF m 23 #[.val (.int p1), .val (.int p2), .val (.int p3), .val (.int p4), .val (.int p5), .val (.int p6), .val (.int (own_ps p1 p4)), .unset, .unset, .unset, .unset, .unset, .unset] [(.int (((p5.toUInt32 >>> ((24 : Int32) &&& 31).toUInt32).toInt32) &&& (1 : Int32)))])) _
      refine XS.ifYes X0.here hx rfl (pc0 := 23) (pc' := 30) rfl (hb hby at_23) rfl ((if0 _ _).trans (teq hq).1) (by decide) (by decide) ?_
      show Steps p.tables e below (s₁.setTop (mkF m 30 #[.val (.int p1), .val (.int p2), .val (.int p3), .val (.int p4), .val (.int p5), .val (.int p6), .val (.int (own_ps p1 p4)), .unset, .unset, .unset, .unset, .unset, .unset] [])) _
      refine XS.iload X0.here hx rfl (hb hby at_30) rfl ?_
      exact kt
    · rw [show (own_pa p2 p5) = p2 from if_neg hq] at kt
      refine k3 t ?_
      show Steps p.tables e below (s₁.setTop (mkF m 23 #[.val (.int p1), .val (.int p2), .val (.int p3), .val (.int p4), .val (.int p5), .val (.int p6), .val (.int (own_ps p1 p4)), .unset, .unset, .unset, .unset, .unset, .unset] [(.int (((p5.toUInt32 >>> ((24 : Int32) &&& 31).toUInt32).toInt32) &&& (1 : Int32)))])) _
      refine XS.ifNo X0.here hx rfl (hb hby at_23) rfl ((if0 _ _).trans (feq hq).1) ?_
      show Steps p.tables e below (s₁.setTop (mkF m 26 #[.val (.int p1), .val (.int p2), .val (.int p3), .val (.int p4), .val (.int p5), .val (.int p6), .val (.int (own_ps p1 p4)), .unset, .unset, .unset, .unset, .unset, .unset] [])) _
      refine XS.iloadN X0.here hx rfl (hb hby at_26) rfl ?_
      show Steps p.tables e below (s₁.setTop (mkF m 27 #[.val (.int p1), .val (.int p2), .val (.int p3), .val (.int p4), .val (.int p5), .val (.int p6), .val (.int (own_ps p1 p4)), .unset, .unset, .unset, .unset, .unset, .unset] [(.int p2)])) _
      refine XS.goto X0.here hx rfl (pc0 := 27) (pc' := 32) rfl (hb hby at_27) (by decide) (by decide) ?_
      exact kt
  have k5 : ∀ t, Steps p.tables e below (s₁.setTop (mkF m 41 #[.val (.int p1), .val (.int p2), .val (.int p3), .val (.int p4), .val (.int p5), .val (.int p6), .val (.int (own_ps p1 p4)), .val (.int (own_pa p2 p5)), .unset, .unset, .unset, .unset, .unset] [(.int (((p6.toUInt32 >>> ((24 : Int32) &&& 31).toUInt32).toInt32) &&& (1 : Int32)))])) t → Steps p.tables e below (s₁.setTop (entryFrame m #[(.int p1), (.int p2), (.int p3), (.int p4), (.int p5), (.int p6)] maxLocals)) t := by
    intro t kt
    refine k4 t ?_
    show Steps p.tables e below (s₁.setTop (mkF m 32 #[.val (.int p1), .val (.int p2), .val (.int p3), .val (.int p4), .val (.int p5), .val (.int p6), .val (.int (own_ps p1 p4)), .unset, .unset, .unset, .unset, .unset, .unset] [(.int (own_pa p2 p5))])) _
    refine XS.istore X0.here hx rfl (hb hby at_32) rfl (l' := #[.val (.int p1), .val (.int p2), .val (.int p3), .val (.int p4), .val (.int p5), .val (.int p6), .val (.int (own_ps p1 p4)), .val (.int (own_pa p2 p5)), .unset, .unset, .unset, .unset, .unset]) rfl ?_
    show Steps p.tables e below (s₁.setTop (mkF m 34 #[.val (.int p1), .val (.int p2), .val (.int p3), .val (.int p4), .val (.int p5), .val (.int p6), .val (.int (own_ps p1 p4)), .val (.int (own_pa p2 p5)), .unset, .unset, .unset, .unset, .unset] [])) _
    refine XS.iload X0.here hx rfl (hb hby at_34) rfl ?_
    show Steps p.tables e below (s₁.setTop (mkF m 36 #[.val (.int p1), .val (.int p2), .val (.int p3), .val (.int p4), .val (.int p5), .val (.int p6), .val (.int (own_ps p1 p4)), .val (.int (own_pa p2 p5)), .unset, .unset, .unset, .unset, .unset] [(.int p6)])) _
    refine XS.bipush X0.here hx rfl (hb hby at_36) ?_
    show Steps p.tables e below (s₁.setTop (mkF m 38 #[.val (.int p1), .val (.int p2), .val (.int p3), .val (.int p4), .val (.int p5), .val (.int p6), .val (.int (own_ps p1 p4)), .val (.int (own_pa p2 p5)), .unset, .unset, .unset, .unset, .unset] [(.int (24 : Int32)), (.int p6)])) _
    refine XS.iushr X0.here hx rfl (hb hby at_38) rfl ?_
    show Steps p.tables e below (s₁.setTop (mkF m 39 #[.val (.int p1), .val (.int p2), .val (.int p3), .val (.int p4), .val (.int p5), .val (.int p6), .val (.int (own_ps p1 p4)), .val (.int (own_pa p2 p5)), .unset, .unset, .unset, .unset, .unset] [(.int ((p6.toUInt32 >>> ((24 : Int32) &&& 31).toUInt32).toInt32))])) _
    refine XS.iconst X0.here hx rfl (hb hby at_39) ?_
    show Steps p.tables e below (s₁.setTop (mkF m 40 #[.val (.int p1), .val (.int p2), .val (.int p3), .val (.int p4), .val (.int p5), .val (.int p6), .val (.int (own_ps p1 p4)), .val (.int (own_pa p2 p5)), .unset, .unset, .unset, .unset, .unset] [(.int (1 : Int32)), (.int ((p6.toUInt32 >>> ((24 : Int32) &&& 31).toUInt32).toInt32))])) _
    refine XS.iand X0.here hx rfl (hb hby at_40) rfl ?_
    exact kt
  have k6 : ∀ t, Steps p.tables e below (s₁.setTop (mkF m 50 #[.val (.int p1), .val (.int p2), .val (.int p3), .val (.int p4), .val (.int p5), .val (.int p6), .val (.int (own_ps p1 p4)), .val (.int (own_pa p2 p5)), .unset, .unset, .unset, .unset, .unset] [(.int (own_po p3 p6))])) t → Steps p.tables e below (s₁.setTop (entryFrame m #[(.int p1), (.int p2), (.int p3), (.int p4), (.int p5), (.int p6)] maxLocals)) t := by
    intro t kt
    by_cases hq : (((p6.toUInt32 >>> ((24 : Int32) &&& 31).toUInt32).toInt32) &&& (1 : Int32)) = (0 : Int32)
    · rw [show (own_po p3 p6) = p6 from if_pos hq] at kt
      refine k5 t ?_
      show Steps p.tables e below (s₁.setTop (mkF m 41 #[.val (.int p1), .val (.int p2), .val (.int p3), .val (.int p4), .val (.int p5), .val (.int p6), .val (.int (own_ps p1 p4)), .val (.int (own_pa p2 p5)), .unset, .unset, .unset, .unset, .unset] [(.int (((p6.toUInt32 >>> ((24 : Int32) &&& 31).toUInt32).toInt32) &&& (1 : Int32)))])) _
      refine XS.ifYes X0.here hx rfl (pc0 := 41) (pc' := 48) rfl (hb hby at_41) rfl ((if0 _ _).trans (teq hq).1) (by decide) (by decide) ?_
      show Steps p.tables e below (s₁.setTop (mkF m 48 #[.val (.int p1), .val (.int p2), .val (.int p3), .val (.int p4), .val (.int p5), .val (.int p6), .val (.int (own_ps p1 p4)), .val (.int (own_pa p2 p5)), .unset, .unset, .unset, .unset, .unset] [])) _
      refine XS.iload X0.here hx rfl (hb hby at_48) rfl ?_
      exact kt
    · rw [show (own_po p3 p6) = p3 from if_neg hq] at kt
      refine k5 t ?_
      show Steps p.tables e below (s₁.setTop (mkF m 41 #[.val (.int p1), .val (.int p2), .val (.int p3), .val (.int p4), .val (.int p5), .val (.int p6), .val (.int (own_ps p1 p4)), .val (.int (own_pa p2 p5)), .unset, .unset, .unset, .unset, .unset] [(.int (((p6.toUInt32 >>> ((24 : Int32) &&& 31).toUInt32).toInt32) &&& (1 : Int32)))])) _
      refine XS.ifNo X0.here hx rfl (hb hby at_41) rfl ((if0 _ _).trans (feq hq).1) ?_
      show Steps p.tables e below (s₁.setTop (mkF m 44 #[.val (.int p1), .val (.int p2), .val (.int p3), .val (.int p4), .val (.int p5), .val (.int p6), .val (.int (own_ps p1 p4)), .val (.int (own_pa p2 p5)), .unset, .unset, .unset, .unset, .unset] [])) _
      refine XS.iloadN X0.here hx rfl (hb hby at_44) rfl ?_
      show Steps p.tables e below (s₁.setTop (mkF m 45 #[.val (.int p1), .val (.int p2), .val (.int p3), .val (.int p4), .val (.int p5), .val (.int p6), .val (.int (own_ps p1 p4)), .val (.int (own_pa p2 p5)), .unset, .unset, .unset, .unset, .unset] [(.int p3)])) _
      refine XS.goto X0.here hx rfl (pc0 := 45) (pc' := 50) rfl (hb hby at_45) (by decide) (by decide) ?_
      exact kt
  obtain ⟨T7, h7, X7, e7, E7, A7, D7, -, st7⟩ := newO X0 hx hZ hown (hw _ (List.mem_of_getElem? (i := 0) rfl)) (hw _ (List.mem_of_getElem? (i := 1) rfl)) (hw _ (List.mem_of_getElem? (i := 2) rfl)) e0 (g := (mkF m 61 #[.val (.int p1), .val (.int p2), .val (.int p3), .val (.int p4), .val (.int p5), .val (.int p6), .val (.int (own_ps p1 p4)), .val (.int (own_pa p2 p5)), .val (.int (own_po p3 p6)), .val (.int (own_mode p6)), .unset, .unset, .unset] [])) rfl (hb hby at_61) (by decide) (by decide)
  obtain ⟨b7, g7⟩ : ∃ z, z = h0.size := ⟨_, rfl⟩
  rw [← g7] at A7 D7 st7
  have g_b7 : n0 ≤ b7 := Nat.le_trans Z0 (Nat.le_of_eq g7.symm)
  have O8 := O0.ext E7
  have Z9 := Nat.le_trans Z0 E7.1
  have hk10 := Nat.le_trans hk0 E7.1
  have F_subject_b7 : Fld Z h7 b7 "com/example/nanshe/nanshe/engine/Request" "subject" "Ljava/lang/String;" .null := D7 (Or.inr (hw _ (List.mem_of_getElem? (i := 113) rfl))) (ty := (.object "java/lang/String")) (by decide)
  have F_action_b7 : Fld Z h7 b7 "com/example/nanshe/nanshe/engine/Request" "action" "Ljava/lang/String;" .null := D7 (Or.inr (hw _ (List.mem_of_getElem? (i := 116) rfl))) (ty := (.object "java/lang/String")) (by decide)
  have F_object_b7 : Fld Z h7 b7 "com/example/nanshe/nanshe/engine/Request" "object" "Ljava/lang/String;" .null := D7 (Or.inr (hw _ (List.mem_of_getElem? (i := 119) rfl))) (ty := (.object "java/lang/String")) (by decide)
  obtain ⟨v11, _, ⟨T11, L11, k11, n11⟩, -, X11, ⟨Lc11, hQ11, l11, y11, z11⟩, st11⟩ := Jvm.LawKit.callS X7 hx (y := (⟨"com/example/nanshe/nanshe/engine/RequestEqualsPinLaw", "name", "(I)Ljava/lang/String;"⟩ : MethodName)) hown (mvT hZ (hw _ (List.mem_of_getElem? (i := 3) rfl))) (mvT hZ (hw _ (List.mem_of_getElem? (i := 4) rfl))) (mvT hZ (hw _ (List.mem_of_getElem? (i := 5) rfl))) (mvT hZ (hw _ (List.mem_of_getElem? (i := 6) rfl))) (by decide) (backOf (W := 2) (own_rm1 l Z a0 hw [] p1 w_COMPACT_STRINGS h7 n0 Z9 O8 hcs S_COMPACT_STRINGS) hZ (hw _ (List.mem_of_getElem? (i := 6) rfl)) (hw _ (List.mem_of_getElem? (i := 5) rfl)) (by decide) (by decide)) (g := (mkF m 66 #[.val (.int p1), .val (.int p2), .val (.int p3), .val (.int p4), .val (.int p5), .val (.int p6), .val (.int (own_ps p1 p4)), .val (.int (own_pa p2 p5)), .val (.int (own_po p3 p6)), .val (.int (own_mode p6)), .unset, .unset, .unset] [(.int p1), (.ref b7), (.ref b7)])) rfl (by rw [hml]; rfl) (argsL := [(.int p1)]) (rest := [(.ref b7), (.ref b7)]) (lenOf own_pd458 rfl) rfl (by show 2 * 0 + _ ≤ _; exact Nat.le_of_eq rfl) (hb hby at_66) (fun _ _ => ⟨rfl, e7, (by decide : 1 + 3 ≤ _), (by decide : 3 + 8 ≤ _)⟩)
  dsimp only [Pt.U, Pt.locs, Pt.cells, Pt.slots] at X11 l11 y11 z11 st11 hQ11
  subst l11 y11 z11
  obtain ⟨r11, x1_11, kr1_11, rfl, N11q, K11, hr11_r, hr11_x1, Q11_0, Q11_1, Q11_2, Q11_3⟩ := hQ11
  have ne_b7_r11 : b7 ≠ r11 := Nat.ne_of_lt (Nat.lt_of_lt_of_le A7.lt hr11_r)
  have g_r11 : n0 ≤ r11 := Nat.le_trans Z9 hr11_r
  have ne_b7_x1_11 : b7 ≠ x1_11 := Nat.ne_of_lt (Nat.lt_of_lt_of_le A7.lt hr11_x1)
  have g_x1_11 : n0 ≤ x1_11 := Nat.le_trans Z9 hr11_x1
  have O12 := O8.keep K11 all0
  have f13 := A7.keep K11
  have f14 := F_subject_b7.keep K11 nin0
  have f15 := F_action_b7.keep K11 nin0
  have f16 := F_object_b7.keep K11 nin0
  have Z17 := Nat.le_trans Z9 K11.1
  have hk18 := Nat.le_trans hk10 K11.1
  have N19 := Fr.app N0 N11q
  obtain ⟨v20, _, ⟨T20, L20, k20, n20⟩, -, X20, ⟨Lc20, hQ20, l20, y20, z20⟩, st20⟩ := Jvm.LawKit.callS X11 hx (y := (⟨"com/example/nanshe/nanshe/engine/RequestEqualsPinLaw", "name", "(I)Ljava/lang/String;"⟩ : MethodName)) hown (mvT hZ (hw _ (List.mem_of_getElem? (i := 3) rfl))) (mvT hZ (hw _ (List.mem_of_getElem? (i := 4) rfl))) (mvT hZ (hw _ (List.mem_of_getElem? (i := 5) rfl))) (mvT hZ (hw _ (List.mem_of_getElem? (i := 6) rfl))) (by decide) (backOf (W := 3) (own_rm1 l Z a0 hw [] p2 w_COMPACT_STRINGS T11.heap n0 Z17 O12 hcs S_COMPACT_STRINGS) hZ (hw _ (List.mem_of_getElem? (i := 6) rfl)) (hw _ (List.mem_of_getElem? (i := 5) rfl)) (by decide) (by decide)) (g := (mkF m 70 #[.val (.int p1), .val (.int p2), .val (.int p3), .val (.int p4), .val (.int p5), .val (.int p6), .val (.int (own_ps p1 p4)), .val (.int (own_pa p2 p5)), .val (.int (own_po p3 p6)), .val (.int (own_mode p6)), .unset, .unset, .unset] [(.int p2), (.ref r11), (.ref b7), (.ref b7)])) rfl (by rw [hml]; rfl) (argsL := [(.int p2)]) (rest := [(.ref r11), (.ref b7), (.ref b7)]) (lenOf own_pd458 rfl) rfl (by show 2 * 0 + _ ≤ _; exact Nat.le_of_eq rfl) (hb hby at_70) (fun _ _ => ⟨rfl, rfl, (by decide : 4 + 3 ≤ _), (by decide : 11 + 8 ≤ _)⟩)
  dsimp only [Pt.U, Pt.locs, Pt.cells, Pt.slots] at X20 l20 y20 z20 st20 hQ20
  subst l20 y20 z20
  obtain ⟨r20, x1_20, kr1_20, rfl, N20q, K20, hr20_r, hr20_x1, Q20_0, Q20_1, Q20_2, Q20_3⟩ := hQ20
  have ne_b7_r20 : b7 ≠ r20 := Nat.ne_of_lt (Nat.lt_of_lt_of_le f13.lt hr20_r)
  have ne_r11_r20 : r11 ≠ r20 := Nat.ne_of_lt (Nat.lt_of_lt_of_le Q11_0.lt hr20_r)
  have ne_x1_11_r20 : x1_11 ≠ r20 := Nat.ne_of_lt (Nat.lt_of_lt_of_le Q11_3.lt hr20_r)
  have g_r20 : n0 ≤ r20 := Nat.le_trans Z17 hr20_r
  have ne_b7_x1_20 : b7 ≠ x1_20 := Nat.ne_of_lt (Nat.lt_of_lt_of_le f13.lt hr20_x1)
  have ne_r11_x1_20 : r11 ≠ x1_20 := Nat.ne_of_lt (Nat.lt_of_lt_of_le Q11_0.lt hr20_x1)
  have ne_x1_11_x1_20 : x1_11 ≠ x1_20 := Nat.ne_of_lt (Nat.lt_of_lt_of_le Q11_3.lt hr20_x1)
  have g_x1_20 : n0 ≤ x1_20 := Nat.le_trans Z17 hr20_x1
  have O21 := O12.keep K20 all0
  have f22 := f13.keep K20
  have f23 := f14.keep K20 nin0
  have f24 := f15.keep K20 nin0
  have f25 := f16.keep K20 nin0
  have f26 := Q11_0.keep K20
  have f27 := Q11_1.keep K20 nin0
  have f28 := Q11_2.keep K20 nin0
  have f29 := Q11_3.keep K20 nin0
  have Z30 := Nat.le_trans Z17 K20.1
  have hk31 := Nat.le_trans hk18 K20.1
  have N32 := Fr.app N19 N20q
  obtain ⟨v33, _, ⟨T33, L33, k33, n33⟩, -, X33, ⟨Lc33, hQ33, l33, y33, z33⟩, st33⟩ := Jvm.LawKit.callS X20 hx (y := (⟨"com/example/nanshe/nanshe/engine/RequestEqualsPinLaw", "name", "(I)Ljava/lang/String;"⟩ : MethodName)) hown (mvT hZ (hw _ (List.mem_of_getElem? (i := 3) rfl))) (mvT hZ (hw _ (List.mem_of_getElem? (i := 4) rfl))) (mvT hZ (hw _ (List.mem_of_getElem? (i := 5) rfl))) (mvT hZ (hw _ (List.mem_of_getElem? (i := 6) rfl))) (by decide) (backOf (W := 4) (own_rm1 l Z a0 hw [] p3 w_COMPACT_STRINGS T20.heap n0 Z30 O21 hcs S_COMPACT_STRINGS) hZ (hw _ (List.mem_of_getElem? (i := 6) rfl)) (hw _ (List.mem_of_getElem? (i := 5) rfl)) (by decide) (by decide)) (g := (mkF m 74 #[.val (.int p1), .val (.int p2), .val (.int p3), .val (.int p4), .val (.int p5), .val (.int p6), .val (.int (own_ps p1 p4)), .val (.int (own_pa p2 p5)), .val (.int (own_po p3 p6)), .val (.int (own_mode p6)), .unset, .unset, .unset] [(.int p3), (.ref r20), (.ref r11), (.ref b7), (.ref b7)])) rfl (by rw [hml]; rfl) (argsL := [(.int p3)]) (rest := [(.ref r20), (.ref r11), (.ref b7), (.ref b7)]) (lenOf own_pd458 rfl) rfl (by show 2 * 0 + _ ≤ _; exact Nat.le_of_eq rfl) (hb hby at_74) (fun _ _ => ⟨rfl, rfl, (by decide : 7 + 3 ≤ _), (by decide : 19 + 8 ≤ _)⟩)
  dsimp only [Pt.U, Pt.locs, Pt.cells, Pt.slots] at X33 l33 y33 z33 st33 hQ33
  subst l33 y33 z33
  obtain ⟨r33, x1_33, kr1_33, rfl, N33q, K33, hr33_r, hr33_x1, Q33_0, Q33_1, Q33_2, Q33_3⟩ := hQ33
  have ne_b7_r33 : b7 ≠ r33 := Nat.ne_of_lt (Nat.lt_of_lt_of_le f22.lt hr33_r)
  have ne_r11_r33 : r11 ≠ r33 := Nat.ne_of_lt (Nat.lt_of_lt_of_le f26.lt hr33_r)
  have ne_x1_11_r33 : x1_11 ≠ r33 := Nat.ne_of_lt (Nat.lt_of_lt_of_le f29.lt hr33_r)
  have ne_r20_r33 : r20 ≠ r33 := Nat.ne_of_lt (Nat.lt_of_lt_of_le Q20_0.lt hr33_r)
  have ne_x1_20_r33 : x1_20 ≠ r33 := Nat.ne_of_lt (Nat.lt_of_lt_of_le Q20_3.lt hr33_r)
  have g_r33 : n0 ≤ r33 := Nat.le_trans Z30 hr33_r
  have ne_b7_x1_33 : b7 ≠ x1_33 := Nat.ne_of_lt (Nat.lt_of_lt_of_le f22.lt hr33_x1)
  have ne_r11_x1_33 : r11 ≠ x1_33 := Nat.ne_of_lt (Nat.lt_of_lt_of_le f26.lt hr33_x1)
  have ne_x1_11_x1_33 : x1_11 ≠ x1_33 := Nat.ne_of_lt (Nat.lt_of_lt_of_le f29.lt hr33_x1)
  have ne_r20_x1_33 : r20 ≠ x1_33 := Nat.ne_of_lt (Nat.lt_of_lt_of_le Q20_0.lt hr33_x1)
  have ne_x1_20_x1_33 : x1_20 ≠ x1_33 := Nat.ne_of_lt (Nat.lt_of_lt_of_le Q20_3.lt hr33_x1)
  have g_x1_33 : n0 ≤ x1_33 := Nat.le_trans Z30 hr33_x1
  have O34 := O21.keep K33 all0
  have f35 := f22.keep K33
  have f36 := f23.keep K33 nin0
  have f37 := f24.keep K33 nin0
  have f38 := f25.keep K33 nin0
  have f39 := f26.keep K33
  have f40 := f27.keep K33 nin0
  have f41 := f28.keep K33 nin0
  have f42 := f29.keep K33 nin0
  have f43 := Q20_0.keep K33
  have f44 := Q20_1.keep K33 nin0
  have f45 := Q20_2.keep K33 nin0
  have f46 := Q20_3.keep K33 nin0
  have Z47 := Nat.le_trans Z30 K33.1
  have hk48 := Nat.le_trans hk31 K33.1
  have N49 := Fr.app N32 N33q
  obtain ⟨v50, _, ⟨T50, L50, k50, n50⟩, -, Y50, Si50, gr50, ⟨Lc50, hQ50, l50, y50, z50⟩, st50⟩ := X33.specialBackS hx (y := (⟨"com/example/nanshe/nanshe/engine/Request", "<init>", "(Ljava/lang/String;Ljava/lang/String;Ljava/lang/String;)V"⟩ : MethodName)) rfl hown (mvT hZ (hw _ (List.mem_of_getElem? (i := 43) rfl))) (mvT hZ (hw _ (List.mem_of_getElem? (i := 44) rfl))) (mvT hZ (hw _ (List.mem_of_getElem? (i := 45) rfl))) (by decide) (backOfS (W := 1) (own_rm10 l Z a0 hw [] b7 r11 r20 r33 x1_11 kr1_11 (own_N p1) (own_bs p1) x1_20 kr1_20 (own_N p2) (own_bs p2) x1_33 kr1_33 (own_N p3) (own_bs p3) w_COMPACT_STRINGS w_SIOOBE_FORMATTER .null .null .null T33.heap n0 Z47 O34 f42 f46 Q33_3 (own_okN _) (own_okN _) (own_okN _) hcs hrf S_COMPACT_STRINGS S_SIOOBE_FORMATTER f41 f40 f39 f35 f36 g_b7 f37 f38 (Ne.symm ne_b7_x1_11) (Ne.symm ne_b7_x1_20) (Ne.symm ne_b7_x1_33) (Ne.symm ne_b7_r11) f45 f44 f43 (Ne.symm ne_b7_r20) Q33_2 Q33_1 Q33_0 (Ne.symm ne_b7_r33)) hZ (hw _ (List.mem_of_getElem? (i := 45) rfl)) (hw _ (List.mem_of_getElem? (i := 2) rfl)) (by decide) (by decide)) (g := (mkF m 77 #[.val (.int p1), .val (.int p2), .val (.int p3), .val (.int p4), .val (.int p5), .val (.int p6), .val (.int (own_ps p1 p4)), .val (.int (own_pa p2 p5)), .val (.int (own_po p3 p6)), .val (.int (own_mode p6)), .unset, .unset, .unset] [(.ref r33), (.ref r20), (.ref r11), (.ref b7), (.ref b7)])) rfl (by rw [hml]; rfl) (Steps.refl _) (a := b7) (argsL := [(.ref r11), (.ref r20), (.ref r33)]) (rest := [(.ref b7)]) (lenOf own_pd459 rfl) rfl (by show 2 * 0 + _ ≤ _; exact Nat.le_of_eq rfl) (hb hby at_77) (fun _ _ => ⟨rfl, rfl, (by decide : 10 + 6 ≤ _), (by decide : 27 + 88 ≤ _)⟩)
  dsimp only [Pt.U, Pt.locs, Pt.cells, Pt.slots] at Y50 Si50 gr50 l50 y50 z50 st50 hQ50
  subst l50 y50 z50
  obtain ⟨X50, hS50, hZ50, hown50⟩ := rebS hS0 hk48 Y50 Si50 gr50 hZ hown
  obtain ⟨rfl, N50q, K50, Q50_0, Q50_1, Q50_2, Q50_3⟩ := hQ50
  have O51 := O34.keep K50 (allS g_b7 all0)
  have f52 := f35.keep K50
  have f56 := f39.keep K50
  have f57 := f40.keep K50 (ninS (Ne.symm ne_b7_r11) nin0)
  have f58 := f41.keep K50 (ninS (Ne.symm ne_b7_r11) nin0)
  have f59 := f42.keep K50 (ninS (Ne.symm ne_b7_x1_11) nin0)
  have f60 := f43.keep K50
  have f61 := f44.keep K50 (ninS (Ne.symm ne_b7_r20) nin0)
  have f62 := f45.keep K50 (ninS (Ne.symm ne_b7_r20) nin0)
  have f63 := f46.keep K50 (ninS (Ne.symm ne_b7_x1_20) nin0)
  have f64 := Q33_0.keep K50
  have f65 := Q33_1.keep K50 (ninS (Ne.symm ne_b7_r33) nin0)
  have f66 := Q33_2.keep K50 (ninS (Ne.symm ne_b7_r33) nin0)
  have f67 := Q33_3.keep K50 (ninS (Ne.symm ne_b7_x1_33) nin0)
  have Z68 := Nat.le_trans Z47 K50.1
  have hk69 := Nat.le_trans hk48 K50.1
  have N70 := Fr.app N49 N50q
  obtain ⟨T71, h71, X71, e71, E71, A71, D71, -, st71⟩ := newO X50 hx hZ50 hown50 (hw _ (List.mem_of_getElem? (i := 0) rfl)) (hw _ (List.mem_of_getElem? (i := 1) rfl)) (hw _ (List.mem_of_getElem? (i := 2) rfl)) rfl (g := (mkF m 82 #[.val (.int p1), .val (.int p2), .val (.int p3), .val (.int p4), .val (.int p5), .val (.int p6), .val (.int (own_ps p1 p4)), .val (.int (own_pa p2 p5)), .val (.int (own_po p3 p6)), .val (.int (own_mode p6)), .val (.ref b7), .unset, .unset] [])) rfl (hb hby at_82) (by decide) (by decide)
  obtain ⟨b71, g71⟩ : ∃ z, z = T50.heap.size := ⟨_, rfl⟩
  rw [← g71] at A71 D71 st71
  have ne_b7_b71 : b7 ≠ b71 := Nat.ne_of_lt (Nat.lt_of_lt_of_le Q50_0.lt (Nat.le_of_eq g71.symm))
  have ne_r11_b71 : r11 ≠ b71 := Nat.ne_of_lt (Nat.lt_of_lt_of_le f56.lt (Nat.le_of_eq g71.symm))
  have ne_x1_11_b71 : x1_11 ≠ b71 := Nat.ne_of_lt (Nat.lt_of_lt_of_le f59.lt (Nat.le_of_eq g71.symm))
  have ne_r20_b71 : r20 ≠ b71 := Nat.ne_of_lt (Nat.lt_of_lt_of_le f60.lt (Nat.le_of_eq g71.symm))
  have ne_x1_20_b71 : x1_20 ≠ b71 := Nat.ne_of_lt (Nat.lt_of_lt_of_le f63.lt (Nat.le_of_eq g71.symm))
  have ne_r33_b71 : r33 ≠ b71 := Nat.ne_of_lt (Nat.lt_of_lt_of_le f64.lt (Nat.le_of_eq g71.symm))
  have ne_x1_33_b71 : x1_33 ≠ b71 := Nat.ne_of_lt (Nat.lt_of_lt_of_le f67.lt (Nat.le_of_eq g71.symm))
  have g_b71 : n0 ≤ b71 := Nat.le_trans Z68 (Nat.le_of_eq g71.symm)
  have f72 := Q50_0.ext E71
  have f73 := f56.ext E71
  have f74 := f57.ext E71
  have f75 := f58.ext E71
  have f76 := f59.ext E71
  have f77 := f60.ext E71
  have f78 := f61.ext E71
  have f79 := f62.ext E71
  have f80 := f63.ext E71
  have f81 := f64.ext E71
  have f82 := f65.ext E71
  have f83 := f66.ext E71
  have f84 := f67.ext E71
  have f85 := Q50_1.ext E71
  have f86 := Q50_2.ext E71
  have f87 := Q50_3.ext E71
  have O88 := O51.ext E71
  have Z89 := Nat.le_trans Z68 E71.1
  have hk90 := Nat.le_trans (Nat.le_refl _) E71.1
  have F_subject_b71 : Fld Z h71 b71 "com/example/nanshe/nanshe/engine/Request" "subject" "Ljava/lang/String;" .null := D71 (Or.inr (hw _ (List.mem_of_getElem? (i := 113) rfl))) (ty := (.object "java/lang/String")) (by decide)
  have F_action_b71 : Fld Z h71 b71 "com/example/nanshe/nanshe/engine/Request" "action" "Ljava/lang/String;" .null := D71 (Or.inr (hw _ (List.mem_of_getElem? (i := 116) rfl))) (ty := (.object "java/lang/String")) (by decide)
  have F_object_b71 : Fld Z h71 b71 "com/example/nanshe/nanshe/engine/Request" "object" "Ljava/lang/String;" .null := D71 (Or.inr (hw _ (List.mem_of_getElem? (i := 119) rfl))) (ty := (.object "java/lang/String")) (by decide)
  obtain ⟨v91, _, ⟨T91, L91, k91, n91⟩, -, X91, ⟨Lc91, hQ91, l91, y91, z91⟩, st91⟩ := Jvm.LawKit.callS X71 hx (y := (⟨"com/example/nanshe/nanshe/engine/RequestEqualsPinLaw", "name", "(I)Ljava/lang/String;"⟩ : MethodName)) hown50 (mvT hZ50 (hw _ (List.mem_of_getElem? (i := 3) rfl))) (mvT hZ50 (hw _ (List.mem_of_getElem? (i := 4) rfl))) (mvT hZ50 (hw _ (List.mem_of_getElem? (i := 5) rfl))) (mvT hZ50 (hw _ (List.mem_of_getElem? (i := 6) rfl))) (by decide) (backOf (W := 2) (own_rm1 l Z a0 hw [] (own_ps p1 p4) w_COMPACT_STRINGS h71 n0 Z89 O88 hcs S_COMPACT_STRINGS) hZ50 (hw _ (List.mem_of_getElem? (i := 6) rfl)) (hw _ (List.mem_of_getElem? (i := 5) rfl)) (by decide) (by decide)) (g := (mkF m 88 #[.val (.int p1), .val (.int p2), .val (.int p3), .val (.int p4), .val (.int p5), .val (.int p6), .val (.int (own_ps p1 p4)), .val (.int (own_pa p2 p5)), .val (.int (own_po p3 p6)), .val (.int (own_mode p6)), .val (.ref b7), .unset, .unset] [(.int (own_ps p1 p4)), (.ref b71), (.ref b71)])) rfl (by rw [hml]; rfl) (argsL := [(.int (own_ps p1 p4))]) (rest := [(.ref b71), (.ref b71)]) (lenOf own_pd458 rfl) rfl (by show 2 * 0 + _ ≤ _; exact Nat.le_of_eq rfl) (hb hby at_88) (fun _ _ => ⟨rfl, e71, (by decide : 17 + 3 ≤ _), (by decide : 118 + 8 ≤ _)⟩)
  dsimp only [Pt.U, Pt.locs, Pt.cells, Pt.slots] at X91 l91 y91 z91 st91 hQ91
  subst l91 y91 z91
  obtain ⟨r91, x1_91, kr1_91, rfl, N91q, K91, hr91_r, hr91_x1, Q91_0, Q91_1, Q91_2, Q91_3⟩ := hQ91
  have ne_b7_r91 : b7 ≠ r91 := Nat.ne_of_lt (Nat.lt_of_lt_of_le f72.lt hr91_r)
  have ne_r11_r91 : r11 ≠ r91 := Nat.ne_of_lt (Nat.lt_of_lt_of_le f73.lt hr91_r)
  have ne_x1_11_r91 : x1_11 ≠ r91 := Nat.ne_of_lt (Nat.lt_of_lt_of_le f76.lt hr91_r)
  have ne_r20_r91 : r20 ≠ r91 := Nat.ne_of_lt (Nat.lt_of_lt_of_le f77.lt hr91_r)
  have ne_x1_20_r91 : x1_20 ≠ r91 := Nat.ne_of_lt (Nat.lt_of_lt_of_le f80.lt hr91_r)
  have ne_r33_r91 : r33 ≠ r91 := Nat.ne_of_lt (Nat.lt_of_lt_of_le f81.lt hr91_r)
  have ne_x1_33_r91 : x1_33 ≠ r91 := Nat.ne_of_lt (Nat.lt_of_lt_of_le f84.lt hr91_r)
  have ne_b71_r91 : b71 ≠ r91 := Nat.ne_of_lt (Nat.lt_of_lt_of_le A71.lt hr91_r)
  have g_r91 : n0 ≤ r91 := Nat.le_trans Z89 hr91_r
  have ne_b7_x1_91 : b7 ≠ x1_91 := Nat.ne_of_lt (Nat.lt_of_lt_of_le f72.lt hr91_x1)
  have ne_r11_x1_91 : r11 ≠ x1_91 := Nat.ne_of_lt (Nat.lt_of_lt_of_le f73.lt hr91_x1)
  have ne_x1_11_x1_91 : x1_11 ≠ x1_91 := Nat.ne_of_lt (Nat.lt_of_lt_of_le f76.lt hr91_x1)
  have ne_r20_x1_91 : r20 ≠ x1_91 := Nat.ne_of_lt (Nat.lt_of_lt_of_le f77.lt hr91_x1)
  have ne_x1_20_x1_91 : x1_20 ≠ x1_91 := Nat.ne_of_lt (Nat.lt_of_lt_of_le f80.lt hr91_x1)
  have ne_r33_x1_91 : r33 ≠ x1_91 := Nat.ne_of_lt (Nat.lt_of_lt_of_le f81.lt hr91_x1)
  have ne_x1_33_x1_91 : x1_33 ≠ x1_91 := Nat.ne_of_lt (Nat.lt_of_lt_of_le f84.lt hr91_x1)
  have ne_b71_x1_91 : b71 ≠ x1_91 := Nat.ne_of_lt (Nat.lt_of_lt_of_le A71.lt hr91_x1)
  have g_x1_91 : n0 ≤ x1_91 := Nat.le_trans Z89 hr91_x1
  have O92 := O88.keep K91 all0
  have f93 := f72.keep K91
  have f94 := f73.keep K91
  have f95 := f74.keep K91 nin0
  have f96 := f75.keep K91 nin0
  have f97 := f76.keep K91 nin0
  have f98 := f77.keep K91
  have f99 := f78.keep K91 nin0
  have f100 := f79.keep K91 nin0
  have f101 := f80.keep K91 nin0
  have f102 := f81.keep K91
  have f103 := f82.keep K91 nin0
  have f104 := f83.keep K91 nin0
  have f105 := f84.keep K91 nin0
  have f106 := f85.keep K91 nin0
  have f107 := f86.keep K91 nin0
  have f108 := f87.keep K91 nin0
  have f109 := A71.keep K91
  have f110 := F_subject_b71.keep K91 nin0
  have f111 := F_action_b71.keep K91 nin0
  have f112 := F_object_b71.keep K91 nin0
  have Z113 := Nat.le_trans Z89 K91.1
  have hk114 := Nat.le_trans hk90 K91.1
  have N115 := Fr.app N70 N91q
  obtain ⟨v116, _, ⟨T116, L116, k116, n116⟩, -, X116, ⟨Lc116, hQ116, l116, y116, z116⟩, st116⟩ := Jvm.LawKit.callS X91 hx (y := (⟨"com/example/nanshe/nanshe/engine/RequestEqualsPinLaw", "name", "(I)Ljava/lang/String;"⟩ : MethodName)) hown50 (mvT hZ50 (hw _ (List.mem_of_getElem? (i := 3) rfl))) (mvT hZ50 (hw _ (List.mem_of_getElem? (i := 4) rfl))) (mvT hZ50 (hw _ (List.mem_of_getElem? (i := 5) rfl))) (mvT hZ50 (hw _ (List.mem_of_getElem? (i := 6) rfl))) (by decide) (backOf (W := 3) (own_rm1 l Z a0 hw [] (own_pa p2 p5) w_COMPACT_STRINGS T91.heap n0 Z113 O92 hcs S_COMPACT_STRINGS) hZ50 (hw _ (List.mem_of_getElem? (i := 6) rfl)) (hw _ (List.mem_of_getElem? (i := 5) rfl)) (by decide) (by decide)) (g := (mkF m 93 #[.val (.int p1), .val (.int p2), .val (.int p3), .val (.int p4), .val (.int p5), .val (.int p6), .val (.int (own_ps p1 p4)), .val (.int (own_pa p2 p5)), .val (.int (own_po p3 p6)), .val (.int (own_mode p6)), .val (.ref b7), .unset, .unset] [(.int (own_pa p2 p5)), (.ref r91), (.ref b71), (.ref b71)])) rfl (by rw [hml]; rfl) (argsL := [(.int (own_pa p2 p5))]) (rest := [(.ref r91), (.ref b71), (.ref b71)]) (lenOf own_pd458 rfl) rfl (by show 2 * 0 + _ ≤ _; exact Nat.le_of_eq rfl) (hb hby at_93) (fun _ _ => ⟨rfl, rfl, (by decide : 20 + 3 ≤ _), (by decide : 126 + 8 ≤ _)⟩)
  dsimp only [Pt.U, Pt.locs, Pt.cells, Pt.slots] at X116 l116 y116 z116 st116 hQ116
  subst l116 y116 z116
  obtain ⟨r116, x1_116, kr1_116, rfl, N116q, K116, hr116_r, hr116_x1, Q116_0, Q116_1, Q116_2, Q116_3⟩ := hQ116
  have ne_b7_r116 : b7 ≠ r116 := Nat.ne_of_lt (Nat.lt_of_lt_of_le f93.lt hr116_r)
  have ne_r11_r116 : r11 ≠ r116 := Nat.ne_of_lt (Nat.lt_of_lt_of_le f94.lt hr116_r)
  have ne_x1_11_r116 : x1_11 ≠ r116 := Nat.ne_of_lt (Nat.lt_of_lt_of_le f97.lt hr116_r)
  have ne_r20_r116 : r20 ≠ r116 := Nat.ne_of_lt (Nat.lt_of_lt_of_le f98.lt hr116_r)
  have ne_x1_20_r116 : x1_20 ≠ r116 := Nat.ne_of_lt (Nat.lt_of_lt_of_le f101.lt hr116_r)
  have ne_r33_r116 : r33 ≠ r116 := Nat.ne_of_lt (Nat.lt_of_lt_of_le f102.lt hr116_r)
  have ne_x1_33_r116 : x1_33 ≠ r116 := Nat.ne_of_lt (Nat.lt_of_lt_of_le f105.lt hr116_r)
  have ne_b71_r116 : b71 ≠ r116 := Nat.ne_of_lt (Nat.lt_of_lt_of_le f109.lt hr116_r)
  have ne_r91_r116 : r91 ≠ r116 := Nat.ne_of_lt (Nat.lt_of_lt_of_le Q91_0.lt hr116_r)
  have ne_x1_91_r116 : x1_91 ≠ r116 := Nat.ne_of_lt (Nat.lt_of_lt_of_le Q91_3.lt hr116_r)
  have g_r116 : n0 ≤ r116 := Nat.le_trans Z113 hr116_r
  have ne_b7_x1_116 : b7 ≠ x1_116 := Nat.ne_of_lt (Nat.lt_of_lt_of_le f93.lt hr116_x1)
  have ne_r11_x1_116 : r11 ≠ x1_116 := Nat.ne_of_lt (Nat.lt_of_lt_of_le f94.lt hr116_x1)
  have ne_x1_11_x1_116 : x1_11 ≠ x1_116 := Nat.ne_of_lt (Nat.lt_of_lt_of_le f97.lt hr116_x1)
  have ne_r20_x1_116 : r20 ≠ x1_116 := Nat.ne_of_lt (Nat.lt_of_lt_of_le f98.lt hr116_x1)
  have ne_x1_20_x1_116 : x1_20 ≠ x1_116 := Nat.ne_of_lt (Nat.lt_of_lt_of_le f101.lt hr116_x1)
  have ne_r33_x1_116 : r33 ≠ x1_116 := Nat.ne_of_lt (Nat.lt_of_lt_of_le f102.lt hr116_x1)
  have ne_x1_33_x1_116 : x1_33 ≠ x1_116 := Nat.ne_of_lt (Nat.lt_of_lt_of_le f105.lt hr116_x1)
  have ne_b71_x1_116 : b71 ≠ x1_116 := Nat.ne_of_lt (Nat.lt_of_lt_of_le f109.lt hr116_x1)
  have ne_r91_x1_116 : r91 ≠ x1_116 := Nat.ne_of_lt (Nat.lt_of_lt_of_le Q91_0.lt hr116_x1)
  have ne_x1_91_x1_116 : x1_91 ≠ x1_116 := Nat.ne_of_lt (Nat.lt_of_lt_of_le Q91_3.lt hr116_x1)
  have g_x1_116 : n0 ≤ x1_116 := Nat.le_trans Z113 hr116_x1
  have O117 := O92.keep K116 all0
  have f118 := f93.keep K116
  have f119 := f94.keep K116
  have f120 := f95.keep K116 nin0
  have f121 := f96.keep K116 nin0
  have f122 := f97.keep K116 nin0
  have f123 := f98.keep K116
  have f124 := f99.keep K116 nin0
  have f125 := f100.keep K116 nin0
  have f126 := f101.keep K116 nin0
  have f127 := f102.keep K116
  have f128 := f103.keep K116 nin0
  have f129 := f104.keep K116 nin0
  have f130 := f105.keep K116 nin0
  have f131 := f106.keep K116 nin0
  have f132 := f107.keep K116 nin0
  have f133 := f108.keep K116 nin0
  have f134 := f109.keep K116
  have f135 := f110.keep K116 nin0
  have f136 := f111.keep K116 nin0
  have f137 := f112.keep K116 nin0
  have f138 := Q91_0.keep K116
  have f139 := Q91_1.keep K116 nin0
  have f140 := Q91_2.keep K116 nin0
  have f141 := Q91_3.keep K116 nin0
  have Z142 := Nat.le_trans Z113 K116.1
  have hk143 := Nat.le_trans hk114 K116.1
  have N144 := Fr.app N115 N116q
  obtain ⟨v145, _, ⟨T145, L145, k145, n145⟩, -, X145, ⟨Lc145, hQ145, l145, y145, z145⟩, st145⟩ := Jvm.LawKit.callS X116 hx (y := (⟨"com/example/nanshe/nanshe/engine/RequestEqualsPinLaw", "name", "(I)Ljava/lang/String;"⟩ : MethodName)) hown50 (mvT hZ50 (hw _ (List.mem_of_getElem? (i := 3) rfl))) (mvT hZ50 (hw _ (List.mem_of_getElem? (i := 4) rfl))) (mvT hZ50 (hw _ (List.mem_of_getElem? (i := 5) rfl))) (mvT hZ50 (hw _ (List.mem_of_getElem? (i := 6) rfl))) (by decide) (backOf (W := 4) (own_rm1 l Z a0 hw [] (own_po p3 p6) w_COMPACT_STRINGS T116.heap n0 Z142 O117 hcs S_COMPACT_STRINGS) hZ50 (hw _ (List.mem_of_getElem? (i := 6) rfl)) (hw _ (List.mem_of_getElem? (i := 5) rfl)) (by decide) (by decide)) (g := (mkF m 98 #[.val (.int p1), .val (.int p2), .val (.int p3), .val (.int p4), .val (.int p5), .val (.int p6), .val (.int (own_ps p1 p4)), .val (.int (own_pa p2 p5)), .val (.int (own_po p3 p6)), .val (.int (own_mode p6)), .val (.ref b7), .unset, .unset] [(.int (own_po p3 p6)), (.ref r116), (.ref r91), (.ref b71), (.ref b71)])) rfl (by rw [hml]; rfl) (argsL := [(.int (own_po p3 p6))]) (rest := [(.ref r116), (.ref r91), (.ref b71), (.ref b71)]) (lenOf own_pd458 rfl) rfl (by show 2 * 0 + _ ≤ _; exact Nat.le_of_eq rfl) (hb hby at_98) (fun _ _ => ⟨rfl, rfl, (by decide : 23 + 3 ≤ _), (by decide : 134 + 8 ≤ _)⟩)
  dsimp only [Pt.U, Pt.locs, Pt.cells, Pt.slots] at X145 l145 y145 z145 st145 hQ145
  subst l145 y145 z145
  obtain ⟨r145, x1_145, kr1_145, rfl, N145q, K145, hr145_r, hr145_x1, Q145_0, Q145_1, Q145_2, Q145_3⟩ := hQ145
  have ne_b7_r145 : b7 ≠ r145 := Nat.ne_of_lt (Nat.lt_of_lt_of_le f118.lt hr145_r)
  have ne_r11_r145 : r11 ≠ r145 := Nat.ne_of_lt (Nat.lt_of_lt_of_le f119.lt hr145_r)
  have ne_x1_11_r145 : x1_11 ≠ r145 := Nat.ne_of_lt (Nat.lt_of_lt_of_le f122.lt hr145_r)
  have ne_r20_r145 : r20 ≠ r145 := Nat.ne_of_lt (Nat.lt_of_lt_of_le f123.lt hr145_r)
  have ne_x1_20_r145 : x1_20 ≠ r145 := Nat.ne_of_lt (Nat.lt_of_lt_of_le f126.lt hr145_r)
  have ne_r33_r145 : r33 ≠ r145 := Nat.ne_of_lt (Nat.lt_of_lt_of_le f127.lt hr145_r)
  have ne_x1_33_r145 : x1_33 ≠ r145 := Nat.ne_of_lt (Nat.lt_of_lt_of_le f130.lt hr145_r)
  have ne_b71_r145 : b71 ≠ r145 := Nat.ne_of_lt (Nat.lt_of_lt_of_le f134.lt hr145_r)
  have ne_r91_r145 : r91 ≠ r145 := Nat.ne_of_lt (Nat.lt_of_lt_of_le f138.lt hr145_r)
  have ne_x1_91_r145 : x1_91 ≠ r145 := Nat.ne_of_lt (Nat.lt_of_lt_of_le f141.lt hr145_r)
  have ne_r116_r145 : r116 ≠ r145 := Nat.ne_of_lt (Nat.lt_of_lt_of_le Q116_0.lt hr145_r)
  have ne_x1_116_r145 : x1_116 ≠ r145 := Nat.ne_of_lt (Nat.lt_of_lt_of_le Q116_3.lt hr145_r)
  have g_r145 : n0 ≤ r145 := Nat.le_trans Z142 hr145_r
  have ne_b7_x1_145 : b7 ≠ x1_145 := Nat.ne_of_lt (Nat.lt_of_lt_of_le f118.lt hr145_x1)
  have ne_r11_x1_145 : r11 ≠ x1_145 := Nat.ne_of_lt (Nat.lt_of_lt_of_le f119.lt hr145_x1)
  have ne_x1_11_x1_145 : x1_11 ≠ x1_145 := Nat.ne_of_lt (Nat.lt_of_lt_of_le f122.lt hr145_x1)
  have ne_r20_x1_145 : r20 ≠ x1_145 := Nat.ne_of_lt (Nat.lt_of_lt_of_le f123.lt hr145_x1)
  have ne_x1_20_x1_145 : x1_20 ≠ x1_145 := Nat.ne_of_lt (Nat.lt_of_lt_of_le f126.lt hr145_x1)
  have ne_r33_x1_145 : r33 ≠ x1_145 := Nat.ne_of_lt (Nat.lt_of_lt_of_le f127.lt hr145_x1)
  have ne_x1_33_x1_145 : x1_33 ≠ x1_145 := Nat.ne_of_lt (Nat.lt_of_lt_of_le f130.lt hr145_x1)
  have ne_b71_x1_145 : b71 ≠ x1_145 := Nat.ne_of_lt (Nat.lt_of_lt_of_le f134.lt hr145_x1)
  have ne_r91_x1_145 : r91 ≠ x1_145 := Nat.ne_of_lt (Nat.lt_of_lt_of_le f138.lt hr145_x1)
  have ne_x1_91_x1_145 : x1_91 ≠ x1_145 := Nat.ne_of_lt (Nat.lt_of_lt_of_le f141.lt hr145_x1)
  have ne_r116_x1_145 : r116 ≠ x1_145 := Nat.ne_of_lt (Nat.lt_of_lt_of_le Q116_0.lt hr145_x1)
  have ne_x1_116_x1_145 : x1_116 ≠ x1_145 := Nat.ne_of_lt (Nat.lt_of_lt_of_le Q116_3.lt hr145_x1)
  have g_x1_145 : n0 ≤ x1_145 := Nat.le_trans Z142 hr145_x1
  have O146 := O117.keep K145 all0
  have f147 := f118.keep K145
  have f148 := f119.keep K145
  have f149 := f120.keep K145 nin0
  have f150 := f121.keep K145 nin0
  have f151 := f122.keep K145 nin0
  have f152 := f123.keep K145
  have f153 := f124.keep K145 nin0
  have f154 := f125.keep K145 nin0
  have f155 := f126.keep K145 nin0
  have f156 := f127.keep K145
  have f157 := f128.keep K145 nin0
  have f158 := f129.keep K145 nin0
  have f159 := f130.keep K145 nin0
  have f160 := f131.keep K145 nin0
  have f161 := f132.keep K145 nin0
  have f162 := f133.keep K145 nin0
  have f163 := f134.keep K145
  have f164 := f135.keep K145 nin0
  have f165 := f136.keep K145 nin0
  have f166 := f137.keep K145 nin0
  have f167 := f138.keep K145
  have f168 := f139.keep K145 nin0
  have f169 := f140.keep K145 nin0
  have f170 := f141.keep K145 nin0
  have f171 := Q116_0.keep K145
  have f172 := Q116_1.keep K145 nin0
  have f173 := Q116_2.keep K145 nin0
  have f174 := Q116_3.keep K145 nin0
  have Z175 := Nat.le_trans Z142 K145.1
  have hk176 := Nat.le_trans hk143 K145.1
  have N177 := Fr.app N144 N145q
  obtain ⟨v178, _, ⟨T178, L178, k178, n178⟩, -, Y178, Si178, gr178, ⟨Lc178, hQ178, l178, y178, z178⟩, st178⟩ := X145.specialBackS hx (y := (⟨"com/example/nanshe/nanshe/engine/Request", "<init>", "(Ljava/lang/String;Ljava/lang/String;Ljava/lang/String;)V"⟩ : MethodName)) rfl hown50 (mvT hZ50 (hw _ (List.mem_of_getElem? (i := 43) rfl))) (mvT hZ50 (hw _ (List.mem_of_getElem? (i := 44) rfl))) (mvT hZ50 (hw _ (List.mem_of_getElem? (i := 45) rfl))) (by decide) (backOfS (W := 1) (own_rm10 l Z a0 hw [] b71 r91 r116 r145 x1_91 kr1_91 (own_N (own_ps p1 p4)) (own_bs (own_ps p1 p4)) x1_116 kr1_116 (own_N (own_pa p2 p5)) (own_bs (own_pa p2 p5)) x1_145 kr1_145 (own_N (own_po p3 p6)) (own_bs (own_po p3 p6)) w_COMPACT_STRINGS w_SIOOBE_FORMATTER .null .null .null T145.heap n0 Z175 O146 f170 f174 Q145_3 (own_okN _) (own_okN _) (own_okN _) hcs hrf S_COMPACT_STRINGS S_SIOOBE_FORMATTER f169 f168 f167 f163 f164 g_b71 f165 f166 (Ne.symm ne_b71_x1_91) (Ne.symm ne_b71_x1_116) (Ne.symm ne_b71_x1_145) (Ne.symm ne_b71_r91) f173 f172 f171 (Ne.symm ne_b71_r116) Q145_2 Q145_1 Q145_0 (Ne.symm ne_b71_r145)) hZ50 (hw _ (List.mem_of_getElem? (i := 45) rfl)) (hw _ (List.mem_of_getElem? (i := 2) rfl)) (by decide) (by decide)) (g := (mkF m 101 #[.val (.int p1), .val (.int p2), .val (.int p3), .val (.int p4), .val (.int p5), .val (.int p6), .val (.int (own_ps p1 p4)), .val (.int (own_pa p2 p5)), .val (.int (own_po p3 p6)), .val (.int (own_mode p6)), .val (.ref b7), .unset, .unset] [(.ref r145), (.ref r116), (.ref r91), (.ref b71), (.ref b71)])) rfl (by rw [hml]; rfl) (Steps.refl _) (a := b71) (argsL := [(.ref r91), (.ref r116), (.ref r145)]) (rest := [(.ref b71)]) (lenOf own_pd459 rfl) rfl (by show 2 * 0 + _ ≤ _; exact Nat.le_of_eq rfl) (hb hby at_101) (fun _ _ => ⟨rfl, rfl, (by decide : 26 + 6 ≤ _), (by decide : 142 + 88 ≤ _)⟩)
  dsimp only [Pt.U, Pt.locs, Pt.cells, Pt.slots] at Y178 Si178 gr178 l178 y178 z178 st178 hQ178
  subst l178 y178 z178
  obtain ⟨X178, hS178, hZ178, hown178⟩ := rebS hS50 hk176 Y178 Si178 gr178 hZ50 hown50
  obtain ⟨rfl, N178q, K178, Q178_0, Q178_1, Q178_2, Q178_3⟩ := hQ178
  have O179 := O146.keep K178 (allS g_b71 all0)
  have f180 := f147.keep K178
  have f181 := f148.keep K178
  have f182 := f149.keep K178 (ninS ne_r11_b71 nin0)
  have f183 := f150.keep K178 (ninS ne_r11_b71 nin0)
  have f184 := f151.keep K178 (ninS ne_x1_11_b71 nin0)
  have f185 := f152.keep K178
  have f186 := f153.keep K178 (ninS ne_r20_b71 nin0)
  have f187 := f154.keep K178 (ninS ne_r20_b71 nin0)
  have f188 := f155.keep K178 (ninS ne_x1_20_b71 nin0)
  have f189 := f156.keep K178
  have f190 := f157.keep K178 (ninS ne_r33_b71 nin0)
  have f191 := f158.keep K178 (ninS ne_r33_b71 nin0)
  have f192 := f159.keep K178 (ninS ne_x1_33_b71 nin0)
  have f193 := f160.keep K178 (ninS ne_b7_b71 nin0)
  have f194 := f161.keep K178 (ninS ne_b7_b71 nin0)
  have f195 := f162.keep K178 (ninS ne_b7_b71 nin0)
  have f196 := f163.keep K178
  have f200 := f167.keep K178
  have f201 := f168.keep K178 (ninS (Ne.symm ne_b71_r91) nin0)
  have f202 := f169.keep K178 (ninS (Ne.symm ne_b71_r91) nin0)
  have f203 := f170.keep K178 (ninS (Ne.symm ne_b71_x1_91) nin0)
  have f204 := f171.keep K178
  have f205 := f172.keep K178 (ninS (Ne.symm ne_b71_r116) nin0)
  have f206 := f173.keep K178 (ninS (Ne.symm ne_b71_r116) nin0)
  have f207 := f174.keep K178 (ninS (Ne.symm ne_b71_x1_116) nin0)
  have f208 := Q145_0.keep K178
  have f209 := Q145_1.keep K178 (ninS (Ne.symm ne_b71_r145) nin0)
  have f210 := Q145_2.keep K178 (ninS (Ne.symm ne_b71_r145) nin0)
  have f211 := Q145_3.keep K178 (ninS (Ne.symm ne_b71_x1_145) nin0)
  have Z212 := Nat.le_trans Z175 K178.1
  have hk213 := Nat.le_trans hk176 K178.1
  have N214 := Fr.app N177 N178q
  have k215 : ∀ t, Steps p.tables e below (T178.setTop (mkF m 109 #[.val (.int p1), .val (.int p2), .val (.int p3), .val (.int p4), .val (.int p5), .val (.int p6), .val (.int (own_ps p1 p4)), .val (.int (own_pa p2 p5)), .val (.int (own_po p3 p6)), .val (.int (own_mode p6)), .val (.ref b7), .val (.ref b71), .unset] [(.int (1 : Int32)), (.int (own_mode p6))])) t → Steps p.tables e below (s₁.setTop (entryFrame m #[(.int p1), (.int p2), (.int p3), (.int p4), (.int p5), (.int p6)] maxLocals)) t := by
    intro t kt
    refine k6 t ?_
    show Steps p.tables e below (s₁.setTop (mkF m 50 #[.val (.int p1), .val (.int p2), .val (.int p3), .val (.int p4), .val (.int p5), .val (.int p6), .val (.int (own_ps p1 p4)), .val (.int (own_pa p2 p5)), .unset, .unset, .unset, .unset, .unset] [(.int (own_po p3 p6))])) _
    refine XS.istore X0.here hx rfl (hb hby at_50) rfl (l' := #[.val (.int p1), .val (.int p2), .val (.int p3), .val (.int p4), .val (.int p5), .val (.int p6), .val (.int (own_ps p1 p4)), .val (.int (own_pa p2 p5)), .val (.int (own_po p3 p6)), .unset, .unset, .unset, .unset]) rfl ?_
    show Steps p.tables e below (s₁.setTop (mkF m 52 #[.val (.int p1), .val (.int p2), .val (.int p3), .val (.int p4), .val (.int p5), .val (.int p6), .val (.int (own_ps p1 p4)), .val (.int (own_pa p2 p5)), .val (.int (own_po p3 p6)), .unset, .unset, .unset, .unset] [])) _
    refine XS.iload X0.here hx rfl (hb hby at_52) rfl ?_
    show Steps p.tables e below (s₁.setTop (mkF m 54 #[.val (.int p1), .val (.int p2), .val (.int p3), .val (.int p4), .val (.int p5), .val (.int p6), .val (.int (own_ps p1 p4)), .val (.int (own_pa p2 p5)), .val (.int (own_po p3 p6)), .unset, .unset, .unset, .unset] [(.int p6)])) _
    refine XS.bipush X0.here hx rfl (hb hby at_54) ?_
    show Steps p.tables e below (s₁.setTop (mkF m 56 #[.val (.int p1), .val (.int p2), .val (.int p3), .val (.int p4), .val (.int p5), .val (.int p6), .val (.int (own_ps p1 p4)), .val (.int (own_pa p2 p5)), .val (.int (own_po p3 p6)), .unset, .unset, .unset, .unset] [(.int (28 : Int32)), (.int p6)])) _
    refine XS.iushr X0.here hx rfl (hb hby at_56) rfl ?_
    show Steps p.tables e below (s₁.setTop (mkF m 57 #[.val (.int p1), .val (.int p2), .val (.int p3), .val (.int p4), .val (.int p5), .val (.int p6), .val (.int (own_ps p1 p4)), .val (.int (own_pa p2 p5)), .val (.int (own_po p3 p6)), .unset, .unset, .unset, .unset] [(.int ((p6.toUInt32 >>> ((28 : Int32) &&& 31).toUInt32).toInt32))])) _
    refine XS.iconst X0.here hx rfl (hb hby at_57) ?_
    show Steps p.tables e below (s₁.setTop (mkF m 58 #[.val (.int p1), .val (.int p2), .val (.int p3), .val (.int p4), .val (.int p5), .val (.int p6), .val (.int (own_ps p1 p4)), .val (.int (own_pa p2 p5)), .val (.int (own_po p3 p6)), .unset, .unset, .unset, .unset] [(.int (3 : Int32)), (.int ((p6.toUInt32 >>> ((28 : Int32) &&& 31).toUInt32).toInt32))])) _
    refine XS.iand X0.here hx rfl (hb hby at_58) rfl ?_
    show Steps p.tables e below (s₁.setTop (mkF m 59 #[.val (.int p1), .val (.int p2), .val (.int p3), .val (.int p4), .val (.int p5), .val (.int p6), .val (.int (own_ps p1 p4)), .val (.int (own_pa p2 p5)), .val (.int (own_po p3 p6)), .unset, .unset, .unset, .unset] [(.int (own_mode p6))])) _
    refine XS.istore X0.here hx rfl (hb hby at_59) rfl (l' := #[.val (.int p1), .val (.int p2), .val (.int p3), .val (.int p4), .val (.int p5), .val (.int p6), .val (.int (own_ps p1 p4)), .val (.int (own_pa p2 p5)), .val (.int (own_po p3 p6)), .val (.int (own_mode p6)), .unset, .unset, .unset]) rfl ?_
    show Steps p.tables e below (s₁.setTop (mkF m 61 #[.val (.int p1), .val (.int p2), .val (.int p3), .val (.int p4), .val (.int p5), .val (.int p6), .val (.int (own_ps p1 p4)), .val (.int (own_pa p2 p5)), .val (.int (own_po p3 p6)), .val (.int (own_mode p6)), .unset, .unset, .unset] [])) _
    refine st7 _ ?_
    show Steps p.tables e below (T7.setTop (mkF m 64 #[.val (.int p1), .val (.int p2), .val (.int p3), .val (.int p4), .val (.int p5), .val (.int p6), .val (.int (own_ps p1 p4)), .val (.int (own_pa p2 p5)), .val (.int (own_po p3 p6)), .val (.int (own_mode p6)), .unset, .unset, .unset] [(.ref b7)])) _
    refine XS.dup X7.here hx rfl (hb hby at_64) rfl rfl ?_
    show Steps p.tables e below (T7.setTop (mkF m 65 #[.val (.int p1), .val (.int p2), .val (.int p3), .val (.int p4), .val (.int p5), .val (.int p6), .val (.int (own_ps p1 p4)), .val (.int (own_pa p2 p5)), .val (.int (own_po p3 p6)), .val (.int (own_mode p6)), .unset, .unset, .unset] [(.ref b7), (.ref b7)])) _
    refine XS.iloadN X7.here hx rfl (hb hby at_65) rfl ?_
    show Steps p.tables e below (T7.setTop (mkF m 66 #[.val (.int p1), .val (.int p2), .val (.int p3), .val (.int p4), .val (.int p5), .val (.int p6), .val (.int (own_ps p1 p4)), .val (.int (own_pa p2 p5)), .val (.int (own_po p3 p6)), .val (.int (own_mode p6)), .unset, .unset, .unset] [(.int p1), (.ref b7), (.ref b7)])) _
    refine st11 _ ?_
    show Steps p.tables e below (T11.setTop (mkF m 69 #[.val (.int p1), .val (.int p2), .val (.int p3), .val (.int p4), .val (.int p5), .val (.int p6), .val (.int (own_ps p1 p4)), .val (.int (own_pa p2 p5)), .val (.int (own_po p3 p6)), .val (.int (own_mode p6)), .unset, .unset, .unset] [(.ref r11), (.ref b7), (.ref b7)])) _
    refine XS.iloadN X11.here hx rfl (hb hby at_69) rfl ?_
    show Steps p.tables e below (T11.setTop (mkF m 70 #[.val (.int p1), .val (.int p2), .val (.int p3), .val (.int p4), .val (.int p5), .val (.int p6), .val (.int (own_ps p1 p4)), .val (.int (own_pa p2 p5)), .val (.int (own_po p3 p6)), .val (.int (own_mode p6)), .unset, .unset, .unset] [(.int p2), (.ref r11), (.ref b7), (.ref b7)])) _
    refine st20 _ ?_
    show Steps p.tables e below (T20.setTop (mkF m 73 #[.val (.int p1), .val (.int p2), .val (.int p3), .val (.int p4), .val (.int p5), .val (.int p6), .val (.int (own_ps p1 p4)), .val (.int (own_pa p2 p5)), .val (.int (own_po p3 p6)), .val (.int (own_mode p6)), .unset, .unset, .unset] [(.ref r20), (.ref r11), (.ref b7), (.ref b7)])) _
    refine XS.iloadN X20.here hx rfl (hb hby at_73) rfl ?_
    show Steps p.tables e below (T20.setTop (mkF m 74 #[.val (.int p1), .val (.int p2), .val (.int p3), .val (.int p4), .val (.int p5), .val (.int p6), .val (.int (own_ps p1 p4)), .val (.int (own_pa p2 p5)), .val (.int (own_po p3 p6)), .val (.int (own_mode p6)), .unset, .unset, .unset] [(.int p3), (.ref r20), (.ref r11), (.ref b7), (.ref b7)])) _
    refine st33 _ ?_
    show Steps p.tables e below (T33.setTop (mkF m 77 #[.val (.int p1), .val (.int p2), .val (.int p3), .val (.int p4), .val (.int p5), .val (.int p6), .val (.int (own_ps p1 p4)), .val (.int (own_pa p2 p5)), .val (.int (own_po p3 p6)), .val (.int (own_mode p6)), .unset, .unset, .unset] [(.ref r33), (.ref r20), (.ref r11), (.ref b7), (.ref b7)])) _
    refine st50.trans ?_
    show Steps p.tables e below (T50.setTop (mkF m 80 #[.val (.int p1), .val (.int p2), .val (.int p3), .val (.int p4), .val (.int p5), .val (.int p6), .val (.int (own_ps p1 p4)), .val (.int (own_pa p2 p5)), .val (.int (own_po p3 p6)), .val (.int (own_mode p6)), .unset, .unset, .unset] [(.ref b7)])) _
    refine XS.astore X50.here hx rfl (hb hby at_80) rfl rfl (l' := #[.val (.int p1), .val (.int p2), .val (.int p3), .val (.int p4), .val (.int p5), .val (.int p6), .val (.int (own_ps p1 p4)), .val (.int (own_pa p2 p5)), .val (.int (own_po p3 p6)), .val (.int (own_mode p6)), .val (.ref b7), .unset, .unset]) rfl ?_
    show Steps p.tables e below (T50.setTop (mkF m 82 #[.val (.int p1), .val (.int p2), .val (.int p3), .val (.int p4), .val (.int p5), .val (.int p6), .val (.int (own_ps p1 p4)), .val (.int (own_pa p2 p5)), .val (.int (own_po p3 p6)), .val (.int (own_mode p6)), .val (.ref b7), .unset, .unset] [])) _
    refine st71 _ ?_
    show Steps p.tables e below (T71.setTop (mkF m 85 #[.val (.int p1), .val (.int p2), .val (.int p3), .val (.int p4), .val (.int p5), .val (.int p6), .val (.int (own_ps p1 p4)), .val (.int (own_pa p2 p5)), .val (.int (own_po p3 p6)), .val (.int (own_mode p6)), .val (.ref b7), .unset, .unset] [(.ref b71)])) _
    refine XS.dup X71.here hx rfl (hb hby at_85) rfl rfl ?_
    show Steps p.tables e below (T71.setTop (mkF m 86 #[.val (.int p1), .val (.int p2), .val (.int p3), .val (.int p4), .val (.int p5), .val (.int p6), .val (.int (own_ps p1 p4)), .val (.int (own_pa p2 p5)), .val (.int (own_po p3 p6)), .val (.int (own_mode p6)), .val (.ref b7), .unset, .unset] [(.ref b71), (.ref b71)])) _
    refine XS.iload X71.here hx rfl (hb hby at_86) rfl ?_
    show Steps p.tables e below (T71.setTop (mkF m 88 #[.val (.int p1), .val (.int p2), .val (.int p3), .val (.int p4), .val (.int p5), .val (.int p6), .val (.int (own_ps p1 p4)), .val (.int (own_pa p2 p5)), .val (.int (own_po p3 p6)), .val (.int (own_mode p6)), .val (.ref b7), .unset, .unset] [(.int (own_ps p1 p4)), (.ref b71), (.ref b71)])) _
    refine st91 _ ?_
    show Steps p.tables e below (T91.setTop (mkF m 91 #[.val (.int p1), .val (.int p2), .val (.int p3), .val (.int p4), .val (.int p5), .val (.int p6), .val (.int (own_ps p1 p4)), .val (.int (own_pa p2 p5)), .val (.int (own_po p3 p6)), .val (.int (own_mode p6)), .val (.ref b7), .unset, .unset] [(.ref r91), (.ref b71), (.ref b71)])) _
    refine XS.iload X91.here hx rfl (hb hby at_91) rfl ?_
    show Steps p.tables e below (T91.setTop (mkF m 93 #[.val (.int p1), .val (.int p2), .val (.int p3), .val (.int p4), .val (.int p5), .val (.int p6), .val (.int (own_ps p1 p4)), .val (.int (own_pa p2 p5)), .val (.int (own_po p3 p6)), .val (.int (own_mode p6)), .val (.ref b7), .unset, .unset] [(.int (own_pa p2 p5)), (.ref r91), (.ref b71), (.ref b71)])) _
    refine st116 _ ?_
    show Steps p.tables e below (T116.setTop (mkF m 96 #[.val (.int p1), .val (.int p2), .val (.int p3), .val (.int p4), .val (.int p5), .val (.int p6), .val (.int (own_ps p1 p4)), .val (.int (own_pa p2 p5)), .val (.int (own_po p3 p6)), .val (.int (own_mode p6)), .val (.ref b7), .unset, .unset] [(.ref r116), (.ref r91), (.ref b71), (.ref b71)])) _
    refine XS.iload X116.here hx rfl (hb hby at_96) rfl ?_
    show Steps p.tables e below (T116.setTop (mkF m 98 #[.val (.int p1), .val (.int p2), .val (.int p3), .val (.int p4), .val (.int p5), .val (.int p6), .val (.int (own_ps p1 p4)), .val (.int (own_pa p2 p5)), .val (.int (own_po p3 p6)), .val (.int (own_mode p6)), .val (.ref b7), .unset, .unset] [(.int (own_po p3 p6)), (.ref r116), (.ref r91), (.ref b71), (.ref b71)])) _
    refine st145 _ ?_
    show Steps p.tables e below (T145.setTop (mkF m 101 #[.val (.int p1), .val (.int p2), .val (.int p3), .val (.int p4), .val (.int p5), .val (.int p6), .val (.int (own_ps p1 p4)), .val (.int (own_pa p2 p5)), .val (.int (own_po p3 p6)), .val (.int (own_mode p6)), .val (.ref b7), .unset, .unset] [(.ref r145), (.ref r116), (.ref r91), (.ref b71), (.ref b71)])) _
    refine st178.trans ?_
    show Steps p.tables e below (T178.setTop (mkF m 104 #[.val (.int p1), .val (.int p2), .val (.int p3), .val (.int p4), .val (.int p5), .val (.int p6), .val (.int (own_ps p1 p4)), .val (.int (own_pa p2 p5)), .val (.int (own_po p3 p6)), .val (.int (own_mode p6)), .val (.ref b7), .unset, .unset] [(.ref b71)])) _
    refine XS.astore X178.here hx rfl (hb hby at_104) rfl rfl (l' := #[.val (.int p1), .val (.int p2), .val (.int p3), .val (.int p4), .val (.int p5), .val (.int p6), .val (.int (own_ps p1 p4)), .val (.int (own_pa p2 p5)), .val (.int (own_po p3 p6)), .val (.int (own_mode p6)), .val (.ref b7), .val (.ref b71), .unset]) rfl ?_
    show Steps p.tables e below (T178.setTop (mkF m 106 #[.val (.int p1), .val (.int p2), .val (.int p3), .val (.int p4), .val (.int p5), .val (.int p6), .val (.int (own_ps p1 p4)), .val (.int (own_pa p2 p5)), .val (.int (own_po p3 p6)), .val (.int (own_mode p6)), .val (.ref b7), .val (.ref b71), .unset] [])) _
    refine XS.iload X178.here hx rfl (hb hby at_106) rfl ?_
    show Steps p.tables e below (T178.setTop (mkF m 108 #[.val (.int p1), .val (.int p2), .val (.int p3), .val (.int p4), .val (.int p5), .val (.int p6), .val (.int (own_ps p1 p4)), .val (.int (own_pa p2 p5)), .val (.int (own_po p3 p6)), .val (.int (own_mode p6)), .val (.ref b7), .val (.ref b71), .unset] [(.int (own_mode p6))])) _
    refine XS.iconst X178.here hx rfl (hb hby at_108) ?_
    exact kt
  by_cases hc1 : (own_mode p6) = (1 : Int32)
  ·
    obtain ⟨cq216, kq216, q216a, q216b, q216c⟩ := isOf hZ178 rfl f180
    obtain ⟨v216, _, ⟨T216, L216, k216, n216⟩, -, X216, ⟨Lc216, hQ216, l216, y216, z216⟩, st216⟩ := X178.virtualBack hx (y := (⟨"com/example/nanshe/nanshe/engine/Request", "equals", "(Ljava/lang/Object;)Z"⟩ : MethodName)) (z := (⟨"com/example/nanshe/nanshe/engine/Request", "equals", "(Ljava/lang/Object;)Z"⟩ : MethodName)) hown178 (mvT hZ178 (hw _ (List.mem_of_getElem? (i := 123) rfl))) (mvT hZ178 (hw _ (List.mem_of_getElem? (i := 124) rfl))) (notFace_of_selects (args := #[]) (mvT hZ178 (hw _ (List.mem_of_getElem? (i := 126) rfl)))) (mvT hZ178 (hw _ (List.mem_of_getElem? (i := 126) rfl))) (mvT hZ178 (hw _ (List.mem_of_getElem? (i := 125) rfl))) (by decide) (backOf (W := 0) (own_vS_rm27 l Z a0 hw [] b7 b7 T178.heap n0 Z212 rfl) hZ178 (hw _ (List.mem_of_getElem? (i := 127) rfl)) (hw _ (List.mem_of_getElem? (i := 2) rfl)) (by decide) (by decide)) q216a q216c (g := (mkF m 116 #[.val (.int p1), .val (.int p2), .val (.int p3), .val (.int p4), .val (.int p5), .val (.int p6), .val (.int (own_ps p1 p4)), .val (.int (own_pa p2 p5)), .val (.int (own_po p3 p6)), .val (.int (own_mode p6)), .val (.ref b7), .val (.ref b71), .unset] [(.ref b7), (.ref b7)])) rfl (by rw [hml]; rfl) (Steps.refl _) (argsL := [(.ref b7)]) (rest := []) (lenOf own_pd385 rfl) rfl (by show 2 * 0 + _ ≤ _; exact Nat.le_of_eq rfl) (hb hby at_116) (fun _ _ => ⟨rfl, rfl, (by decide : 32 + 0 ≤ _), (by decide : 230 + 0 ≤ _)⟩)
    dsimp only [Pt.U, Pt.locs, Pt.cells, Pt.slots] at X216 l216 y216 z216 st216 hQ216
    subst l216 y216 z216
    obtain ⟨hv216, N216q, e216⟩ := hQ216
    have N217 := Fr.app N214 N216q
    rw [show (own_vS_f27) = (1 : Int32) from by first | rfl | decide | simp [own_vS_f27]] at hv216
    subst hv216
    obtain ⟨fs, hr, hrun, hended, hE⟩ := Stand.leaveW (s := s) (vm₁ := T178.vm) X216 hS178 (by rw [e216]; exact (Nat.le_refl _)) (hlocks := hlk) (v := some (.int (1 : Int32))) (fun h => by rw [Bd.returns] at h; cases h)
    refine ⟨_, _, k215 _ ?_, hrun, hended, _, _, rfl, ?_, hE.1, hE.2.1, hE.2.2.1, hE.2.2.2.mono (by decide) (by decide)⟩
    · show Steps p.tables e below (T178.setTop (mkF m 109 #[.val (.int p1), .val (.int p2), .val (.int p3), .val (.int p4), .val (.int p5), .val (.int p6), .val (.int (own_ps p1 p4)), .val (.int (own_pa p2 p5)), .val (.int (own_po p3 p6)), .val (.int (own_mode p6)), .val (.ref b7), .val (.ref b71), .unset] [(.int (1 : Int32)), (.int (own_mode p6))])) _
      refine XS.icmpNo X178.here hx rfl (hb hby at_109) rfl (teq hc1).2 ?_
      show Steps p.tables e below (T178.setTop (mkF m 112 #[.val (.int p1), .val (.int p2), .val (.int p3), .val (.int p4), .val (.int p5), .val (.int p6), .val (.int (own_ps p1 p4)), .val (.int (own_pa p2 p5)), .val (.int (own_po p3 p6)), .val (.int (own_mode p6)), .val (.ref b7), .val (.ref b71), .unset] [])) _
      refine XS.aload X178.here hx rfl (hb hby at_112) rfl rfl ?_
      show Steps p.tables e below (T178.setTop (mkF m 114 #[.val (.int p1), .val (.int p2), .val (.int p3), .val (.int p4), .val (.int p5), .val (.int p6), .val (.int (own_ps p1 p4)), .val (.int (own_pa p2 p5)), .val (.int (own_po p3 p6)), .val (.int (own_mode p6)), .val (.ref b7), .val (.ref b71), .unset] [(.ref b7)])) _
      refine XS.aload X178.here hx rfl (hb hby at_114) rfl rfl ?_
      show Steps p.tables e below (T178.setTop (mkF m 116 #[.val (.int p1), .val (.int p2), .val (.int p3), .val (.int p4), .val (.int p5), .val (.int p6), .val (.int (own_ps p1 p4)), .val (.int (own_pa p2 p5)), .val (.int (own_po p3 p6)), .val (.int (own_mode p6)), .val (.ref b7), .val (.ref b71), .unset] [(.ref b7), (.ref b7)])) _
      refine st216.trans ?_
      show Steps p.tables e below (T216.setTop (mkF m 119 #[.val (.int p1), .val (.int p2), .val (.int p3), .val (.int p4), .val (.int p5), .val (.int p6), .val (.int (own_ps p1 p4)), .val (.int (own_pa p2 p5)), .val (.int (own_po p3 p6)), .val (.int (own_mode p6)), .val (.ref b7), .val (.ref b71), .unset] [(.int (1 : Int32))])) _
      exact retN X216 hx (t := .boolean) Bd.returns (by simp) (hb hby at_119) hr
    · show own_Q0 Z p1 p2 p3 p4 p5 p6 w_COMPACT_STRINGS w_SIOOBE_FORMATTER h0 n0 _ T216.heap _
      rw [e216]
      exact ⟨(by rw [own_f0, if_pos hc1]), N217⟩
  ·
    have k218 : ∀ t, Steps p.tables e below (T178.setTop (mkF m 123 #[.val (.int p1), .val (.int p2), .val (.int p3), .val (.int p4), .val (.int p5), .val (.int p6), .val (.int (own_ps p1 p4)), .val (.int (own_pa p2 p5)), .val (.int (own_po p3 p6)), .val (.int (own_mode p6)), .val (.ref b7), .val (.ref b71), .unset] [(.int (2 : Int32)), (.int (own_mode p6))])) t → Steps p.tables e below (s₁.setTop (entryFrame m #[(.int p1), (.int p2), (.int p3), (.int p4), (.int p5), (.int p6)] maxLocals)) t := by
      intro t kt
      refine k215 t ?_
      show Steps p.tables e below (T178.setTop (mkF m 109 #[.val (.int p1), .val (.int p2), .val (.int p3), .val (.int p4), .val (.int p5), .val (.int p6), .val (.int (own_ps p1 p4)), .val (.int (own_pa p2 p5)), .val (.int (own_po p3 p6)), .val (.int (own_mode p6)), .val (.ref b7), .val (.ref b71), .unset] [(.int (1 : Int32)), (.int (own_mode p6))])) _
      refine XS.icmpYes X178.here hx rfl (pc0 := 109) (pc' := 120) rfl (hb hby at_109) rfl (feq hc1).2 (by decide) (by decide) ?_
      show Steps p.tables e below (T178.setTop (mkF m 120 #[.val (.int p1), .val (.int p2), .val (.int p3), .val (.int p4), .val (.int p5), .val (.int p6), .val (.int (own_ps p1 p4)), .val (.int (own_pa p2 p5)), .val (.int (own_po p3 p6)), .val (.int (own_mode p6)), .val (.ref b7), .val (.ref b71), .unset] [])) _
      refine XS.iload X178.here hx rfl (hb hby at_120) rfl ?_
      show Steps p.tables e below (T178.setTop (mkF m 122 #[.val (.int p1), .val (.int p2), .val (.int p3), .val (.int p4), .val (.int p5), .val (.int p6), .val (.int (own_ps p1 p4)), .val (.int (own_pa p2 p5)), .val (.int (own_po p3 p6)), .val (.int (own_mode p6)), .val (.ref b7), .val (.ref b71), .unset] [(.int (own_mode p6))])) _
      refine XS.iconst X178.here hx rfl (hb hby at_122) ?_
      exact kt
    by_cases hc2 : (own_mode p6) = (2 : Int32)
    ·
      obtain ⟨v219, _, ⟨T219, L219, k219, n219⟩, -, X219, ⟨Lc219, hQ219, l219, y219, z219⟩, st219⟩ := Jvm.LawKit.callS X178 hx (y := (⟨"com/example/nanshe/nanshe/engine/RequestEqualsPinLaw", "name", "(I)Ljava/lang/String;"⟩ : MethodName)) hown178 (mvT hZ178 (hw _ (List.mem_of_getElem? (i := 3) rfl))) (mvT hZ178 (hw _ (List.mem_of_getElem? (i := 4) rfl))) (mvT hZ178 (hw _ (List.mem_of_getElem? (i := 5) rfl))) (mvT hZ178 (hw _ (List.mem_of_getElem? (i := 6) rfl))) (by decide) (backOf (W := 1) (own_rm1 l Z a0 hw [] p1 w_COMPACT_STRINGS T178.heap n0 Z212 O179 hcs S_COMPACT_STRINGS) hZ178 (hw _ (List.mem_of_getElem? (i := 6) rfl)) (hw _ (List.mem_of_getElem? (i := 5) rfl)) (by decide) (by decide)) (g := (mkF m 129 #[.val (.int p1), .val (.int p2), .val (.int p3), .val (.int p4), .val (.int p5), .val (.int p6), .val (.int (own_ps p1 p4)), .val (.int (own_pa p2 p5)), .val (.int (own_po p3 p6)), .val (.int (own_mode p6)), .val (.ref b7), .val (.ref b71), .unset] [(.int p1), (.ref b7)])) rfl (by rw [hml]; rfl) (argsL := [(.int p1)]) (rest := [(.ref b7)]) (lenOf own_pd458 rfl) rfl (by show 2 * 0 + _ ≤ _; exact Nat.le_of_eq rfl) (hb hby at_129) (fun _ _ => ⟨rfl, rfl, (by decide : 32 + 3 ≤ _), (by decide : 230 + 8 ≤ _)⟩)
      dsimp only [Pt.U, Pt.locs, Pt.cells, Pt.slots] at X219 l219 y219 z219 st219 hQ219
      subst l219 y219 z219
      obtain ⟨r219, x1_219, kr1_219, rfl, N219q, K219, hr219_r, hr219_x1, Q219_0, Q219_1, Q219_2, Q219_3⟩ := hQ219
      have ne_b7_r219 : b7 ≠ r219 := Nat.ne_of_lt (Nat.lt_of_lt_of_le f180.lt hr219_r)
      have ne_r11_r219 : r11 ≠ r219 := Nat.ne_of_lt (Nat.lt_of_lt_of_le f181.lt hr219_r)
      have ne_x1_11_r219 : x1_11 ≠ r219 := Nat.ne_of_lt (Nat.lt_of_lt_of_le f184.lt hr219_r)
      have ne_r20_r219 : r20 ≠ r219 := Nat.ne_of_lt (Nat.lt_of_lt_of_le f185.lt hr219_r)
      have ne_x1_20_r219 : x1_20 ≠ r219 := Nat.ne_of_lt (Nat.lt_of_lt_of_le f188.lt hr219_r)
      have ne_r33_r219 : r33 ≠ r219 := Nat.ne_of_lt (Nat.lt_of_lt_of_le f189.lt hr219_r)
      have ne_x1_33_r219 : x1_33 ≠ r219 := Nat.ne_of_lt (Nat.lt_of_lt_of_le f192.lt hr219_r)
      have ne_b71_r219 : b71 ≠ r219 := Nat.ne_of_lt (Nat.lt_of_lt_of_le Q178_0.lt hr219_r)
      have ne_r91_r219 : r91 ≠ r219 := Nat.ne_of_lt (Nat.lt_of_lt_of_le f200.lt hr219_r)
      have ne_x1_91_r219 : x1_91 ≠ r219 := Nat.ne_of_lt (Nat.lt_of_lt_of_le f203.lt hr219_r)
      have ne_r116_r219 : r116 ≠ r219 := Nat.ne_of_lt (Nat.lt_of_lt_of_le f204.lt hr219_r)
      have ne_x1_116_r219 : x1_116 ≠ r219 := Nat.ne_of_lt (Nat.lt_of_lt_of_le f207.lt hr219_r)
      have ne_r145_r219 : r145 ≠ r219 := Nat.ne_of_lt (Nat.lt_of_lt_of_le f208.lt hr219_r)
      have ne_x1_145_r219 : x1_145 ≠ r219 := Nat.ne_of_lt (Nat.lt_of_lt_of_le f211.lt hr219_r)
      have g_r219 : n0 ≤ r219 := Nat.le_trans Z212 hr219_r
      have ne_b7_x1_219 : b7 ≠ x1_219 := Nat.ne_of_lt (Nat.lt_of_lt_of_le f180.lt hr219_x1)
      have ne_r11_x1_219 : r11 ≠ x1_219 := Nat.ne_of_lt (Nat.lt_of_lt_of_le f181.lt hr219_x1)
      have ne_x1_11_x1_219 : x1_11 ≠ x1_219 := Nat.ne_of_lt (Nat.lt_of_lt_of_le f184.lt hr219_x1)
      have ne_r20_x1_219 : r20 ≠ x1_219 := Nat.ne_of_lt (Nat.lt_of_lt_of_le f185.lt hr219_x1)
      have ne_x1_20_x1_219 : x1_20 ≠ x1_219 := Nat.ne_of_lt (Nat.lt_of_lt_of_le f188.lt hr219_x1)
      have ne_r33_x1_219 : r33 ≠ x1_219 := Nat.ne_of_lt (Nat.lt_of_lt_of_le f189.lt hr219_x1)
      have ne_x1_33_x1_219 : x1_33 ≠ x1_219 := Nat.ne_of_lt (Nat.lt_of_lt_of_le f192.lt hr219_x1)
      have ne_b71_x1_219 : b71 ≠ x1_219 := Nat.ne_of_lt (Nat.lt_of_lt_of_le Q178_0.lt hr219_x1)
      have ne_r91_x1_219 : r91 ≠ x1_219 := Nat.ne_of_lt (Nat.lt_of_lt_of_le f200.lt hr219_x1)
      have ne_x1_91_x1_219 : x1_91 ≠ x1_219 := Nat.ne_of_lt (Nat.lt_of_lt_of_le f203.lt hr219_x1)
      have ne_r116_x1_219 : r116 ≠ x1_219 := Nat.ne_of_lt (Nat.lt_of_lt_of_le f204.lt hr219_x1)
      have ne_x1_116_x1_219 : x1_116 ≠ x1_219 := Nat.ne_of_lt (Nat.lt_of_lt_of_le f207.lt hr219_x1)
      have ne_r145_x1_219 : r145 ≠ x1_219 := Nat.ne_of_lt (Nat.lt_of_lt_of_le f208.lt hr219_x1)
      have ne_x1_145_x1_219 : x1_145 ≠ x1_219 := Nat.ne_of_lt (Nat.lt_of_lt_of_le f211.lt hr219_x1)
      have g_x1_219 : n0 ≤ x1_219 := Nat.le_trans Z212 hr219_x1
      have O220 := O179.keep K219 all0
      have f221 := f180.keep K219
      have f222 := f181.keep K219
      have f223 := f182.keep K219 nin0
      have f224 := f183.keep K219 nin0
      have f225 := f184.keep K219 nin0
      have f226 := f185.keep K219
      have f227 := f186.keep K219 nin0
      have f228 := f187.keep K219 nin0
      have f229 := f188.keep K219 nin0
      have f230 := f189.keep K219
      have f231 := f190.keep K219 nin0
      have f232 := f191.keep K219 nin0
      have f233 := f192.keep K219 nin0
      have f234 := f193.keep K219 nin0
      have f235 := f194.keep K219 nin0
      have f236 := f195.keep K219 nin0
      have f237 := Q178_0.keep K219
      have f238 := f200.keep K219
      have f239 := f201.keep K219 nin0
      have f240 := f202.keep K219 nin0
      have f241 := f203.keep K219 nin0
      have f242 := f204.keep K219
      have f243 := f205.keep K219 nin0
      have f244 := f206.keep K219 nin0
      have f245 := f207.keep K219 nin0
      have f246 := f208.keep K219
      have f247 := f209.keep K219 nin0
      have f248 := f210.keep K219 nin0
      have f249 := f211.keep K219 nin0
      have f250 := Q178_1.keep K219 nin0
      have f251 := Q178_2.keep K219 nin0
      have f252 := Q178_3.keep K219 nin0
      have Z253 := Nat.le_trans Z212 K219.1
      have hk254 := Nat.le_trans (Nat.le_refl _) K219.1
      have N255 := Fr.app N214 N219q
      obtain ⟨cq256, kq256, q256a, q256b, q256c⟩ := isOf hZ178 rfl f221
      obtain ⟨v256, _, ⟨T256, L256, k256, n256⟩, -, X256, ⟨Lc256, hQ256, l256, y256, z256⟩, st256⟩ := X219.virtualBack hx (y := (⟨"com/example/nanshe/nanshe/engine/Request", "equals", "(Ljava/lang/Object;)Z"⟩ : MethodName)) (z := (⟨"com/example/nanshe/nanshe/engine/Request", "equals", "(Ljava/lang/Object;)Z"⟩ : MethodName)) hown178 (mvT hZ178 (hw _ (List.mem_of_getElem? (i := 123) rfl))) (mvT hZ178 (hw _ (List.mem_of_getElem? (i := 124) rfl))) (notFace_of_selects (args := #[]) (mvT hZ178 (hw _ (List.mem_of_getElem? (i := 126) rfl)))) (mvT hZ178 (hw _ (List.mem_of_getElem? (i := 126) rfl))) (mvT hZ178 (hw _ (List.mem_of_getElem? (i := 125) rfl))) (by decide) (backOf (W := 0) (own_vT_rm27 l Z a0 hw [] b7 r219 T219.heap n0 Z253 ne_b7_r219 Q219_0) hZ178 (hw _ (List.mem_of_getElem? (i := 127) rfl)) (hw _ (List.mem_of_getElem? (i := 2) rfl)) (by decide) (by decide)) q256a q256c (g := (mkF m 132 #[.val (.int p1), .val (.int p2), .val (.int p3), .val (.int p4), .val (.int p5), .val (.int p6), .val (.int (own_ps p1 p4)), .val (.int (own_pa p2 p5)), .val (.int (own_po p3 p6)), .val (.int (own_mode p6)), .val (.ref b7), .val (.ref b71), .unset] [(.ref r219), (.ref b7)])) rfl (by rw [hml]; rfl) (Steps.refl _) (argsL := [(.ref r219)]) (rest := []) (lenOf own_pd385 rfl) rfl (by show 2 * 0 + _ ≤ _; exact Nat.le_of_eq rfl) (hb hby at_132) (fun _ _ => ⟨rfl, rfl, (by decide : 35 + 0 ≤ _), (by decide : 238 + 0 ≤ _)⟩)
      dsimp only [Pt.U, Pt.locs, Pt.cells, Pt.slots] at X256 l256 y256 z256 st256 hQ256
      subst l256 y256 z256
      obtain ⟨hv256, N256q, e256⟩ := hQ256
      have N257 := Fr.app N255 N256q
      rw [show (own_vT_f27) = (0 : Int32) from by first | rfl | decide | simp [own_vT_f27]] at hv256
      subst hv256
      obtain ⟨fs, hr, hrun, hended, hE⟩ := Stand.leaveW (s := s) (vm₁ := T178.vm) X256 hS178 (by rw [e256]; exact hk254) (hlocks := hlk) (v := some (.int (1 : Int32))) (fun h => by rw [Bd.returns] at h; cases h)
      refine ⟨_, _, k218 _ ?_, hrun, hended, _, _, rfl, ?_, hE.1, hE.2.1, hE.2.2.1, hE.2.2.2.mono (by decide) (by decide)⟩
      · show Steps p.tables e below (T178.setTop (mkF m 123 #[.val (.int p1), .val (.int p2), .val (.int p3), .val (.int p4), .val (.int p5), .val (.int p6), .val (.int (own_ps p1 p4)), .val (.int (own_pa p2 p5)), .val (.int (own_po p3 p6)), .val (.int (own_mode p6)), .val (.ref b7), .val (.ref b71), .unset] [(.int (2 : Int32)), (.int (own_mode p6))])) _
        refine XS.icmpNo X178.here hx rfl (hb hby at_123) rfl (teq hc2).2 ?_
        show Steps p.tables e below (T178.setTop (mkF m 126 #[.val (.int p1), .val (.int p2), .val (.int p3), .val (.int p4), .val (.int p5), .val (.int p6), .val (.int (own_ps p1 p4)), .val (.int (own_pa p2 p5)), .val (.int (own_po p3 p6)), .val (.int (own_mode p6)), .val (.ref b7), .val (.ref b71), .unset] [])) _
        refine XS.aload X178.here hx rfl (hb hby at_126) rfl rfl ?_
        show Steps p.tables e below (T178.setTop (mkF m 128 #[.val (.int p1), .val (.int p2), .val (.int p3), .val (.int p4), .val (.int p5), .val (.int p6), .val (.int (own_ps p1 p4)), .val (.int (own_pa p2 p5)), .val (.int (own_po p3 p6)), .val (.int (own_mode p6)), .val (.ref b7), .val (.ref b71), .unset] [(.ref b7)])) _
        refine XS.iloadN X178.here hx rfl (hb hby at_128) rfl ?_
        show Steps p.tables e below (T178.setTop (mkF m 129 #[.val (.int p1), .val (.int p2), .val (.int p3), .val (.int p4), .val (.int p5), .val (.int p6), .val (.int (own_ps p1 p4)), .val (.int (own_pa p2 p5)), .val (.int (own_po p3 p6)), .val (.int (own_mode p6)), .val (.ref b7), .val (.ref b71), .unset] [(.int p1), (.ref b7)])) _
        refine st219 _ ?_
        show Steps p.tables e below (T219.setTop (mkF m 132 #[.val (.int p1), .val (.int p2), .val (.int p3), .val (.int p4), .val (.int p5), .val (.int p6), .val (.int (own_ps p1 p4)), .val (.int (own_pa p2 p5)), .val (.int (own_po p3 p6)), .val (.int (own_mode p6)), .val (.ref b7), .val (.ref b71), .unset] [(.ref r219), (.ref b7)])) _
        refine st256.trans ?_
        show Steps p.tables e below (T256.setTop (mkF m 135 #[.val (.int p1), .val (.int p2), .val (.int p3), .val (.int p4), .val (.int p5), .val (.int p6), .val (.int (own_ps p1 p4)), .val (.int (own_pa p2 p5)), .val (.int (own_po p3 p6)), .val (.int (own_mode p6)), .val (.ref b7), .val (.ref b71), .unset] [(.int (0 : Int32))])) _
        refine XS.ifNo X256.here hx rfl (hb hby at_135) rfl ((if0 _ _).trans (teq (by decide : (0 : Int32) = (0 : Int32))).2) ?_
        show Steps p.tables e below (T256.setTop (mkF m 138 #[.val (.int p1), .val (.int p2), .val (.int p3), .val (.int p4), .val (.int p5), .val (.int p6), .val (.int (own_ps p1 p4)), .val (.int (own_pa p2 p5)), .val (.int (own_po p3 p6)), .val (.int (own_mode p6)), .val (.ref b7), .val (.ref b71), .unset] [])) _
        refine XS.iconst X256.here hx rfl (hb hby at_138) ?_
        show Steps p.tables e below (T256.setTop (mkF m 139 #[.val (.int p1), .val (.int p2), .val (.int p3), .val (.int p4), .val (.int p5), .val (.int p6), .val (.int (own_ps p1 p4)), .val (.int (own_pa p2 p5)), .val (.int (own_po p3 p6)), .val (.int (own_mode p6)), .val (.ref b7), .val (.ref b71), .unset] [(.int (1 : Int32))])) _
        refine XS.goto X256.here hx rfl (pc0 := 139) (pc' := 143) rfl (hb hby at_139) (by decide) (by decide) ?_
        show Steps p.tables e below (T256.setTop (mkF m 143 #[.val (.int p1), .val (.int p2), .val (.int p3), .val (.int p4), .val (.int p5), .val (.int p6), .val (.int (own_ps p1 p4)), .val (.int (own_pa p2 p5)), .val (.int (own_po p3 p6)), .val (.int (own_mode p6)), .val (.ref b7), .val (.ref b71), .unset] [(.int (1 : Int32))])) _
        exact retN X256 hx (t := .boolean) Bd.returns (by simp) (hb hby at_143) hr
      · show own_Q0 Z p1 p2 p3 p4 p5 p6 w_COMPACT_STRINGS w_SIOOBE_FORMATTER h0 n0 _ T256.heap _
        rw [e256]
        exact ⟨(by rw [own_f0, if_neg hc1, if_pos hc2]), N257⟩
    ·
      have k258 : ∀ t, Steps p.tables e below (T178.setTop (mkF m 147 #[.val (.int p1), .val (.int p2), .val (.int p3), .val (.int p4), .val (.int p5), .val (.int p6), .val (.int (own_ps p1 p4)), .val (.int (own_pa p2 p5)), .val (.int (own_po p3 p6)), .val (.int (own_mode p6)), .val (.ref b7), .val (.ref b71), .unset] [(.int (3 : Int32)), (.int (own_mode p6))])) t → Steps p.tables e below (s₁.setTop (entryFrame m #[(.int p1), (.int p2), (.int p3), (.int p4), (.int p5), (.int p6)] maxLocals)) t := by
        intro t kt
        refine k218 t ?_
        show Steps p.tables e below (T178.setTop (mkF m 123 #[.val (.int p1), .val (.int p2), .val (.int p3), .val (.int p4), .val (.int p5), .val (.int p6), .val (.int (own_ps p1 p4)), .val (.int (own_pa p2 p5)), .val (.int (own_po p3 p6)), .val (.int (own_mode p6)), .val (.ref b7), .val (.ref b71), .unset] [(.int (2 : Int32)), (.int (own_mode p6))])) _
        refine XS.icmpYes X178.here hx rfl (pc0 := 123) (pc' := 144) rfl (hb hby at_123) rfl (feq hc2).2 (by decide) (by decide) ?_
        show Steps p.tables e below (T178.setTop (mkF m 144 #[.val (.int p1), .val (.int p2), .val (.int p3), .val (.int p4), .val (.int p5), .val (.int p6), .val (.int (own_ps p1 p4)), .val (.int (own_pa p2 p5)), .val (.int (own_po p3 p6)), .val (.int (own_mode p6)), .val (.ref b7), .val (.ref b71), .unset] [])) _
        refine XS.iload X178.here hx rfl (hb hby at_144) rfl ?_
        show Steps p.tables e below (T178.setTop (mkF m 146 #[.val (.int p1), .val (.int p2), .val (.int p3), .val (.int p4), .val (.int p5), .val (.int p6), .val (.int (own_ps p1 p4)), .val (.int (own_pa p2 p5)), .val (.int (own_po p3 p6)), .val (.int (own_mode p6)), .val (.ref b7), .val (.ref b71), .unset] [(.int (own_mode p6))])) _
        refine XS.iconst X178.here hx rfl (hb hby at_146) ?_
        exact kt
      by_cases hc3 : (own_mode p6) = (3 : Int32)
      ·
        obtain ⟨cq259, kq259, q259a, q259b, q259c⟩ := isOf hZ178 rfl f180
        obtain ⟨v259, _, ⟨T259, L259, k259, n259⟩, -, X259, ⟨Lc259, hQ259, l259, y259, z259⟩, st259⟩ := X178.virtualBack hx (y := (⟨"com/example/nanshe/nanshe/engine/Request", "equals", "(Ljava/lang/Object;)Z"⟩ : MethodName)) (z := (⟨"com/example/nanshe/nanshe/engine/Request", "equals", "(Ljava/lang/Object;)Z"⟩ : MethodName)) hown178 (mvT hZ178 (hw _ (List.mem_of_getElem? (i := 123) rfl))) (mvT hZ178 (hw _ (List.mem_of_getElem? (i := 124) rfl))) (notFace_of_selects (args := #[]) (mvT hZ178 (hw _ (List.mem_of_getElem? (i := 126) rfl)))) (mvT hZ178 (hw _ (List.mem_of_getElem? (i := 126) rfl))) (mvT hZ178 (hw _ (List.mem_of_getElem? (i := 125) rfl))) (by decide) (backOf (W := 0) (own_vN_rm27 l Z a0 hw [] b7 T178.heap n0 Z212) hZ178 (hw _ (List.mem_of_getElem? (i := 127) rfl)) (hw _ (List.mem_of_getElem? (i := 2) rfl)) (by decide) (by decide)) q259a q259c (g := (mkF m 153 #[.val (.int p1), .val (.int p2), .val (.int p3), .val (.int p4), .val (.int p5), .val (.int p6), .val (.int (own_ps p1 p4)), .val (.int (own_pa p2 p5)), .val (.int (own_po p3 p6)), .val (.int (own_mode p6)), .val (.ref b7), .val (.ref b71), .unset] [.null, (.ref b7)])) rfl (by rw [hml]; rfl) (Steps.refl _) (argsL := [.null]) (rest := []) (lenOf own_pd385 rfl) rfl (by show 2 * 0 + _ ≤ _; exact Nat.le_of_eq rfl) (hb hby at_153) (fun _ _ => ⟨rfl, rfl, (by decide : 32 + 0 ≤ _), (by decide : 230 + 0 ≤ _)⟩)
        dsimp only [Pt.U, Pt.locs, Pt.cells, Pt.slots] at X259 l259 y259 z259 st259 hQ259
        subst l259 y259 z259
        obtain ⟨hv259, N259q, e259⟩ := hQ259
        have N260 := Fr.app N214 N259q
        rw [show (own_vN_f27) = (0 : Int32) from by first | rfl | decide | simp [own_vN_f27]] at hv259
        subst hv259
        obtain ⟨fs, hr, hrun, hended, hE⟩ := Stand.leaveW (s := s) (vm₁ := T178.vm) X259 hS178 (by rw [e259]; exact (Nat.le_refl _)) (hlocks := hlk) (v := some (.int (1 : Int32))) (fun h => by rw [Bd.returns] at h; cases h)
        refine ⟨_, _, k258 _ ?_, hrun, hended, _, _, rfl, ?_, hE.1, hE.2.1, hE.2.2.1, hE.2.2.2.mono (by decide) (by decide)⟩
        · show Steps p.tables e below (T178.setTop (mkF m 147 #[.val (.int p1), .val (.int p2), .val (.int p3), .val (.int p4), .val (.int p5), .val (.int p6), .val (.int (own_ps p1 p4)), .val (.int (own_pa p2 p5)), .val (.int (own_po p3 p6)), .val (.int (own_mode p6)), .val (.ref b7), .val (.ref b71), .unset] [(.int (3 : Int32)), (.int (own_mode p6))])) _
          refine XS.icmpNo X178.here hx rfl (hb hby at_147) rfl (teq hc3).2 ?_
          show Steps p.tables e below (T178.setTop (mkF m 150 #[.val (.int p1), .val (.int p2), .val (.int p3), .val (.int p4), .val (.int p5), .val (.int p6), .val (.int (own_ps p1 p4)), .val (.int (own_pa p2 p5)), .val (.int (own_po p3 p6)), .val (.int (own_mode p6)), .val (.ref b7), .val (.ref b71), .unset] [])) _
          refine XS.aload X178.here hx rfl (hb hby at_150) rfl rfl ?_
          show Steps p.tables e below (T178.setTop (mkF m 152 #[.val (.int p1), .val (.int p2), .val (.int p3), .val (.int p4), .val (.int p5), .val (.int p6), .val (.int (own_ps p1 p4)), .val (.int (own_pa p2 p5)), .val (.int (own_po p3 p6)), .val (.int (own_mode p6)), .val (.ref b7), .val (.ref b71), .unset] [(.ref b7)])) _
          refine XS.aconstNull X178.here hx rfl (hb hby at_152) ?_
          show Steps p.tables e below (T178.setTop (mkF m 153 #[.val (.int p1), .val (.int p2), .val (.int p3), .val (.int p4), .val (.int p5), .val (.int p6), .val (.int (own_ps p1 p4)), .val (.int (own_pa p2 p5)), .val (.int (own_po p3 p6)), .val (.int (own_mode p6)), .val (.ref b7), .val (.ref b71), .unset] [.null, (.ref b7)])) _
          refine st259.trans ?_
          show Steps p.tables e below (T259.setTop (mkF m 156 #[.val (.int p1), .val (.int p2), .val (.int p3), .val (.int p4), .val (.int p5), .val (.int p6), .val (.int (own_ps p1 p4)), .val (.int (own_pa p2 p5)), .val (.int (own_po p3 p6)), .val (.int (own_mode p6)), .val (.ref b7), .val (.ref b71), .unset] [(.int (0 : Int32))])) _
          refine XS.ifNo X259.here hx rfl (hb hby at_156) rfl ((if0 _ _).trans (teq (by decide : (0 : Int32) = (0 : Int32))).2) ?_
          show Steps p.tables e below (T259.setTop (mkF m 159 #[.val (.int p1), .val (.int p2), .val (.int p3), .val (.int p4), .val (.int p5), .val (.int p6), .val (.int (own_ps p1 p4)), .val (.int (own_pa p2 p5)), .val (.int (own_po p3 p6)), .val (.int (own_mode p6)), .val (.ref b7), .val (.ref b71), .unset] [])) _
          refine XS.iconst X259.here hx rfl (hb hby at_159) ?_
          show Steps p.tables e below (T259.setTop (mkF m 160 #[.val (.int p1), .val (.int p2), .val (.int p3), .val (.int p4), .val (.int p5), .val (.int p6), .val (.int (own_ps p1 p4)), .val (.int (own_pa p2 p5)), .val (.int (own_po p3 p6)), .val (.int (own_mode p6)), .val (.ref b7), .val (.ref b71), .unset] [(.int (1 : Int32))])) _
          refine XS.goto X259.here hx rfl (pc0 := 160) (pc' := 164) rfl (hb hby at_160) (by decide) (by decide) ?_
          show Steps p.tables e below (T259.setTop (mkF m 164 #[.val (.int p1), .val (.int p2), .val (.int p3), .val (.int p4), .val (.int p5), .val (.int p6), .val (.int (own_ps p1 p4)), .val (.int (own_pa p2 p5)), .val (.int (own_po p3 p6)), .val (.int (own_mode p6)), .val (.ref b7), .val (.ref b71), .unset] [(.int (1 : Int32))])) _
          exact retN X259 hx (t := .boolean) Bd.returns (by simp) (hb hby at_164) hr
        · show own_Q0 Z p1 p2 p3 p4 p5 p6 w_COMPACT_STRINGS w_SIOOBE_FORMATTER h0 n0 _ T259.heap _
          rw [e259]
          exact ⟨(by rw [own_f0, if_neg hc1, if_neg hc2, if_pos hc3]), N260⟩
      ·
        obtain ⟨v261, _, ⟨T261, L261, k261, n261⟩, -, X261, ⟨Lc261, hQ261, l261, y261, z261⟩, st261⟩ := Jvm.LawKit.callS X178 hx (y := (⟨"com/example/nanshe/nanshe/engine/RequestEqualsPinLaw", "same", "(II)Z"⟩ : MethodName)) hown178 (mvT hZ178 (hw _ (List.mem_of_getElem? (i := 120) rfl))) (mvT hZ178 (hw _ (List.mem_of_getElem? (i := 121) rfl))) (mvT hZ178 (hw _ (List.mem_of_getElem? (i := 5) rfl))) (mvT hZ178 (hw _ (List.mem_of_getElem? (i := 122) rfl))) (by decide) (backOf (W := 0) (own_rm26 l Z a0 hw [] p1 (own_ps p1 p4) T178.heap n0 Z212) hZ178 (hw _ (List.mem_of_getElem? (i := 122) rfl)) (hw _ (List.mem_of_getElem? (i := 5) rfl)) (by decide) (by decide)) (g := (mkF m 168 #[.val (.int p1), .val (.int p2), .val (.int p3), .val (.int p4), .val (.int p5), .val (.int p6), .val (.int (own_ps p1 p4)), .val (.int (own_pa p2 p5)), .val (.int (own_po p3 p6)), .val (.int (own_mode p6)), .val (.ref b7), .val (.ref b71), .unset] [(.int (own_ps p1 p4)), (.int p1)])) rfl (by rw [hml]; rfl) (argsL := [(.int p1), (.int (own_ps p1 p4))]) (rest := []) (lenOf own_pd460 rfl) rfl (by show 2 * 0 + _ ≤ _; exact Nat.le_of_eq rfl) (hb hby at_168) (fun _ _ => ⟨rfl, rfl, (by decide : 32 + 0 ≤ _), (by decide : 230 + 0 ≤ _)⟩)
        dsimp only [Pt.U, Pt.locs, Pt.cells, Pt.slots] at X261 l261 y261 z261 st261 hQ261
        subst l261 y261 z261
        obtain ⟨rfl, N261q, e261⟩ := hQ261
        have N262 := Fr.app N214 N261q
        have k263 : ∀ t, Steps p.tables e below (T261.setTop (mkF m 171 #[.val (.int p1), .val (.int p2), .val (.int p3), .val (.int p4), .val (.int p5), .val (.int p6), .val (.int (own_ps p1 p4)), .val (.int (own_pa p2 p5)), .val (.int (own_po p3 p6)), .val (.int (own_mode p6)), .val (.ref b7), .val (.ref b71), .unset] [(.int (own_f26 p1 (own_ps p1 p4)))])) t → Steps p.tables e below (s₁.setTop (entryFrame m #[(.int p1), (.int p2), (.int p3), (.int p4), (.int p5), (.int p6)] maxLocals)) t := by
          intro t kt
          refine k258 t ?_
          show Steps p.tables e below (T178.setTop (mkF m 147 #[.val (.int p1), .val (.int p2), .val (.int p3), .val (.int p4), .val (.int p5), .val (.int p6), .val (.int (own_ps p1 p4)), .val (.int (own_pa p2 p5)), .val (.int (own_po p3 p6)), .val (.int (own_mode p6)), .val (.ref b7), .val (.ref b71), .unset] [(.int (3 : Int32)), (.int (own_mode p6))])) _
          refine XS.icmpYes X178.here hx rfl (pc0 := 147) (pc' := 165) rfl (hb hby at_147) rfl (feq hc3).2 (by decide) (by decide) ?_
          show Steps p.tables e below (T178.setTop (mkF m 165 #[.val (.int p1), .val (.int p2), .val (.int p3), .val (.int p4), .val (.int p5), .val (.int p6), .val (.int (own_ps p1 p4)), .val (.int (own_pa p2 p5)), .val (.int (own_po p3 p6)), .val (.int (own_mode p6)), .val (.ref b7), .val (.ref b71), .unset] [])) _
          refine XS.iloadN X178.here hx rfl (hb hby at_165) rfl ?_
          show Steps p.tables e below (T178.setTop (mkF m 166 #[.val (.int p1), .val (.int p2), .val (.int p3), .val (.int p4), .val (.int p5), .val (.int p6), .val (.int (own_ps p1 p4)), .val (.int (own_pa p2 p5)), .val (.int (own_po p3 p6)), .val (.int (own_mode p6)), .val (.ref b7), .val (.ref b71), .unset] [(.int p1)])) _
          refine XS.iload X178.here hx rfl (hb hby at_166) rfl ?_
          show Steps p.tables e below (T178.setTop (mkF m 168 #[.val (.int p1), .val (.int p2), .val (.int p3), .val (.int p4), .val (.int p5), .val (.int p6), .val (.int (own_ps p1 p4)), .val (.int (own_pa p2 p5)), .val (.int (own_po p3 p6)), .val (.int (own_mode p6)), .val (.ref b7), .val (.ref b71), .unset] [(.int (own_ps p1 p4)), (.int p1)])) _
          refine st261 _ ?_
          exact kt
        by_cases hc4 : (own_f26 p1 (own_ps p1 p4)) = (0 : Int32)
        ·
          obtain ⟨cq264, kq264, q264a, q264b, q264c⟩ := isOf hZ178 e261 f180
          obtain ⟨v264, _, ⟨T264, L264, k264, n264⟩, -, X264, ⟨Lc264, hQ264, l264, y264, z264⟩, st264⟩ := X261.virtualBack hx (y := (⟨"com/example/nanshe/nanshe/engine/Request", "equals", "(Ljava/lang/Object;)Z"⟩ : MethodName)) (z := (⟨"com/example/nanshe/nanshe/engine/Request", "equals", "(Ljava/lang/Object;)Z"⟩ : MethodName)) hown178 (mvT hZ178 (hw _ (List.mem_of_getElem? (i := 123) rfl))) (mvT hZ178 (hw _ (List.mem_of_getElem? (i := 124) rfl))) (notFace_of_selects (args := #[]) (mvT hZ178 (hw _ (List.mem_of_getElem? (i := 126) rfl)))) (mvT hZ178 (hw _ (List.mem_of_getElem? (i := 126) rfl))) (mvT hZ178 (hw _ (List.mem_of_getElem? (i := 125) rfl))) (by decide) (backOf (W := 0) (own_vR_rm27 l Z a0 hw [] b7 b71 x1_11 kr1_11 (own_N p1) (own_bs p1) x1_91 kr1_91 (own_N (own_ps p1 p4)) (own_bs (own_ps p1 p4)) x1_20 kr1_20 (own_N p2) (own_bs p2) x1_116 kr1_116 (own_N (own_pa p2 p5)) (own_bs (own_pa p2 p5)) x1_33 kr1_33 (own_N p3) (own_bs p3) x1_145 kr1_145 (own_N (own_po p3 p6)) (own_bs (own_po p3 p6)) r11 r91 w_COMPACT_STRINGS r20 r116 r33 r145 T178.heap n0 Z212 O179 f184 f203 f188 f207 f192 f211 (own_okN _) (own_okN _) (own_okN _) (own_okN _) (own_okN _) (own_okN _) ne_b7_b71 hcs Q178_0 f193 Q178_1 S_COMPACT_STRINGS f182 f201 f183 f202 ne_r11_r91 f200 f181 f194 Q178_2 f186 f205 f187 f206 ne_r20_r116 f204 f185 f195 Q178_3 f190 f209 f191 f210 ne_r33_r145 f208 f189) hZ178 (hw _ (List.mem_of_getElem? (i := 127) rfl)) (hw _ (List.mem_of_getElem? (i := 2) rfl)) (by decide) (by decide)) q264a q264c (g := (mkF m 203 #[.val (.int p1), .val (.int p2), .val (.int p3), .val (.int p4), .val (.int p5), .val (.int p6), .val (.int (own_ps p1 p4)), .val (.int (own_pa p2 p5)), .val (.int (own_po p3 p6)), .val (.int (own_mode p6)), .val (.ref b7), .val (.ref b71), .val (.int (0 : Int32))] [(.ref b71), (.ref b7)])) rfl (by rw [hml]; rfl) (Steps.refl _) (argsL := [(.ref b71)]) (rest := []) (lenOf own_pd385 rfl) rfl (by show 2 * 0 + _ ≤ _; exact Nat.le_of_eq rfl) (hb hby at_203) (fun _ _ => ⟨rfl, e261, (by decide : 32 + 0 ≤ _), (by decide : 230 + 0 ≤ _)⟩)
          dsimp only [Pt.U, Pt.locs, Pt.cells, Pt.slots] at X264 l264 y264 z264 st264 hQ264
          subst l264 y264 z264
          obtain ⟨rfl, N264q, e264⟩ := hQ264
          have N265 := Fr.app N262 N264q
          have k266 : ∀ t, Steps p.tables e below (T264.setTop (mkF m 208 #[.val (.int p1), .val (.int p2), .val (.int p3), .val (.int p4), .val (.int p5), .val (.int p6), .val (.int (own_ps p1 p4)), .val (.int (own_pa p2 p5)), .val (.int (own_po p3 p6)), .val (.int (own_mode p6)), .val (.ref b7), .val (.ref b71), .val (.int (0 : Int32))] [(.int (0 : Int32)), (.int (own_vR_f27 (own_bs p1) (own_bs (own_ps p1 p4)) (own_bs p2) (own_bs (own_pa p2 p5)) (own_bs p3) (own_bs (own_po p3 p6))))])) t → Steps p.tables e below (s₁.setTop (entryFrame m #[(.int p1), (.int p2), (.int p3), (.int p4), (.int p5), (.int p6)] maxLocals)) t := by
            intro t kt
            refine k263 t ?_
            show Steps p.tables e below (T261.setTop (mkF m 171 #[.val (.int p1), .val (.int p2), .val (.int p3), .val (.int p4), .val (.int p5), .val (.int p6), .val (.int (own_ps p1 p4)), .val (.int (own_pa p2 p5)), .val (.int (own_po p3 p6)), .val (.int (own_mode p6)), .val (.ref b7), .val (.ref b71), .unset] [(.int (own_f26 p1 (own_ps p1 p4)))])) _
            refine XS.ifYes X261.here hx rfl (pc0 := 171) (pc' := 196) rfl (hb hby at_171) rfl ((if0 _ _).trans (teq hc4).1) (by decide) (by decide) ?_
            show Steps p.tables e below (T261.setTop (mkF m 196 #[.val (.int p1), .val (.int p2), .val (.int p3), .val (.int p4), .val (.int p5), .val (.int p6), .val (.int (own_ps p1 p4)), .val (.int (own_pa p2 p5)), .val (.int (own_po p3 p6)), .val (.int (own_mode p6)), .val (.ref b7), .val (.ref b71), .unset] [])) _
            refine XS.iconst X261.here hx rfl (hb hby at_196) ?_
            show Steps p.tables e below (T261.setTop (mkF m 197 #[.val (.int p1), .val (.int p2), .val (.int p3), .val (.int p4), .val (.int p5), .val (.int p6), .val (.int (own_ps p1 p4)), .val (.int (own_pa p2 p5)), .val (.int (own_po p3 p6)), .val (.int (own_mode p6)), .val (.ref b7), .val (.ref b71), .unset] [(.int (0 : Int32))])) _
            refine XS.istore X261.here hx rfl (hb hby at_197) rfl (l' := #[.val (.int p1), .val (.int p2), .val (.int p3), .val (.int p4), .val (.int p5), .val (.int p6), .val (.int (own_ps p1 p4)), .val (.int (own_pa p2 p5)), .val (.int (own_po p3 p6)), .val (.int (own_mode p6)), .val (.ref b7), .val (.ref b71), .val (.int (0 : Int32))]) rfl ?_
            show Steps p.tables e below (T261.setTop (mkF m 199 #[.val (.int p1), .val (.int p2), .val (.int p3), .val (.int p4), .val (.int p5), .val (.int p6), .val (.int (own_ps p1 p4)), .val (.int (own_pa p2 p5)), .val (.int (own_po p3 p6)), .val (.int (own_mode p6)), .val (.ref b7), .val (.ref b71), .val (.int (0 : Int32))] [])) _
            refine XS.aload X261.here hx rfl (hb hby at_199) rfl rfl ?_
            show Steps p.tables e below (T261.setTop (mkF m 201 #[.val (.int p1), .val (.int p2), .val (.int p3), .val (.int p4), .val (.int p5), .val (.int p6), .val (.int (own_ps p1 p4)), .val (.int (own_pa p2 p5)), .val (.int (own_po p3 p6)), .val (.int (own_mode p6)), .val (.ref b7), .val (.ref b71), .val (.int (0 : Int32))] [(.ref b7)])) _
            refine XS.aload X261.here hx rfl (hb hby at_201) rfl rfl ?_
            show Steps p.tables e below (T261.setTop (mkF m 203 #[.val (.int p1), .val (.int p2), .val (.int p3), .val (.int p4), .val (.int p5), .val (.int p6), .val (.int (own_ps p1 p4)), .val (.int (own_pa p2 p5)), .val (.int (own_po p3 p6)), .val (.int (own_mode p6)), .val (.ref b7), .val (.ref b71), .val (.int (0 : Int32))] [(.ref b71), (.ref b7)])) _
            refine st264.trans ?_
            show Steps p.tables e below (T264.setTop (mkF m 206 #[.val (.int p1), .val (.int p2), .val (.int p3), .val (.int p4), .val (.int p5), .val (.int p6), .val (.int (own_ps p1 p4)), .val (.int (own_pa p2 p5)), .val (.int (own_po p3 p6)), .val (.int (own_mode p6)), .val (.ref b7), .val (.ref b71), .val (.int (0 : Int32))] [(.int (own_vR_f27 (own_bs p1) (own_bs (own_ps p1 p4)) (own_bs p2) (own_bs (own_pa p2 p5)) (own_bs p3) (own_bs (own_po p3 p6))))])) _
            refine XS.iload X264.here hx rfl (hb hby at_206) rfl ?_
            exact kt
          by_cases hc5 : (own_vR_f27 (own_bs p1) (own_bs (own_ps p1 p4)) (own_bs p2) (own_bs (own_pa p2 p5)) (own_bs p3) (own_bs (own_po p3 p6))) = (0 : Int32)
          ·
            obtain ⟨cq267, kq267, q267a, q267b, q267c⟩ := isOf hZ178 e264 Q178_0
            obtain ⟨v267, _, ⟨T267, L267, k267, n267⟩, -, X267, ⟨Lc267, hQ267, l267, y267, z267⟩, st267⟩ := X264.virtualBack hx (y := (⟨"com/example/nanshe/nanshe/engine/Request", "equals", "(Ljava/lang/Object;)Z"⟩ : MethodName)) (z := (⟨"com/example/nanshe/nanshe/engine/Request", "equals", "(Ljava/lang/Object;)Z"⟩ : MethodName)) hown178 (mvT hZ178 (hw _ (List.mem_of_getElem? (i := 123) rfl))) (mvT hZ178 (hw _ (List.mem_of_getElem? (i := 124) rfl))) (notFace_of_selects (args := #[]) (mvT hZ178 (hw _ (List.mem_of_getElem? (i := 126) rfl)))) (mvT hZ178 (hw _ (List.mem_of_getElem? (i := 126) rfl))) (mvT hZ178 (hw _ (List.mem_of_getElem? (i := 125) rfl))) (by decide) (backOf (W := 0) (own_vR_rm27 l Z a0 hw [] b71 b7 x1_91 kr1_91 (own_N (own_ps p1 p4)) (own_bs (own_ps p1 p4)) x1_11 kr1_11 (own_N p1) (own_bs p1) x1_116 kr1_116 (own_N (own_pa p2 p5)) (own_bs (own_pa p2 p5)) x1_20 kr1_20 (own_N p2) (own_bs p2) x1_145 kr1_145 (own_N (own_po p3 p6)) (own_bs (own_po p3 p6)) x1_33 kr1_33 (own_N p3) (own_bs p3) r91 r11 w_COMPACT_STRINGS r116 r20 r145 r33 T178.heap n0 Z212 O179 f203 f184 f207 f188 f211 f192 (own_okN _) (own_okN _) (own_okN _) (own_okN _) (own_okN _) (own_okN _) (Ne.symm ne_b7_b71) hcs f180 Q178_1 f193 S_COMPACT_STRINGS f201 f182 f202 f183 (Ne.symm ne_r11_r91) f181 f200 Q178_2 f194 f205 f186 f206 f187 (Ne.symm ne_r20_r116) f185 f204 Q178_3 f195 f209 f190 f210 f191 (Ne.symm ne_r33_r145) f189 f208) hZ178 (hw _ (List.mem_of_getElem? (i := 127) rfl)) (hw _ (List.mem_of_getElem? (i := 2) rfl)) (by decide) (by decide)) q267a q267c (g := (mkF m 215 #[.val (.int p1), .val (.int p2), .val (.int p3), .val (.int p4), .val (.int p5), .val (.int p6), .val (.int (own_ps p1 p4)), .val (.int (own_pa p2 p5)), .val (.int (own_po p3 p6)), .val (.int (own_mode p6)), .val (.ref b7), .val (.ref b71), .val (.int (0 : Int32))] [(.ref b7), (.ref b71)])) rfl (by rw [hml]; rfl) (Steps.refl _) (argsL := [(.ref b7)]) (rest := []) (lenOf own_pd385 rfl) rfl (by show 2 * 0 + _ ≤ _; exact Nat.le_of_eq rfl) (hb hby at_215) (fun _ _ => ⟨rfl, e264, (by decide : 32 + 0 ≤ _), (by decide : 230 + 0 ≤ _)⟩)
            dsimp only [Pt.U, Pt.locs, Pt.cells, Pt.slots] at X267 l267 y267 z267 st267 hQ267
            subst l267 y267 z267
            obtain ⟨rfl, N267q, e267⟩ := hQ267
            have N268 := Fr.app N265 N267q
            have k269 : ∀ t, Steps p.tables e below (T267.setTop (mkF m 220 #[.val (.int p1), .val (.int p2), .val (.int p3), .val (.int p4), .val (.int p5), .val (.int p6), .val (.int (own_ps p1 p4)), .val (.int (own_pa p2 p5)), .val (.int (own_po p3 p6)), .val (.int (own_mode p6)), .val (.ref b7), .val (.ref b71), .val (.int (0 : Int32))] [(.int (0 : Int32)), (.int (own_vR_f27 (own_bs (own_ps p1 p4)) (own_bs p1) (own_bs (own_pa p2 p5)) (own_bs p2) (own_bs (own_po p3 p6)) (own_bs p3)))])) t → Steps p.tables e below (s₁.setTop (entryFrame m #[(.int p1), (.int p2), (.int p3), (.int p4), (.int p5), (.int p6)] maxLocals)) t := by
              intro t kt
              refine k266 t ?_
              show Steps p.tables e below (T264.setTop (mkF m 208 #[.val (.int p1), .val (.int p2), .val (.int p3), .val (.int p4), .val (.int p5), .val (.int p6), .val (.int (own_ps p1 p4)), .val (.int (own_pa p2 p5)), .val (.int (own_po p3 p6)), .val (.int (own_mode p6)), .val (.ref b7), .val (.ref b71), .val (.int (0 : Int32))] [(.int (0 : Int32)), (.int (own_vR_f27 (own_bs p1) (own_bs (own_ps p1 p4)) (own_bs p2) (own_bs (own_pa p2 p5)) (own_bs p3) (own_bs (own_po p3 p6))))])) _
              refine XS.icmpNo X264.here hx rfl (hb hby at_208) rfl (teq hc5).2 ?_
              show Steps p.tables e below (T264.setTop (mkF m 211 #[.val (.int p1), .val (.int p2), .val (.int p3), .val (.int p4), .val (.int p5), .val (.int p6), .val (.int (own_ps p1 p4)), .val (.int (own_pa p2 p5)), .val (.int (own_po p3 p6)), .val (.int (own_mode p6)), .val (.ref b7), .val (.ref b71), .val (.int (0 : Int32))] [])) _
              refine XS.aload X264.here hx rfl (hb hby at_211) rfl rfl ?_
              show Steps p.tables e below (T264.setTop (mkF m 213 #[.val (.int p1), .val (.int p2), .val (.int p3), .val (.int p4), .val (.int p5), .val (.int p6), .val (.int (own_ps p1 p4)), .val (.int (own_pa p2 p5)), .val (.int (own_po p3 p6)), .val (.int (own_mode p6)), .val (.ref b7), .val (.ref b71), .val (.int (0 : Int32))] [(.ref b71)])) _
              refine XS.aload X264.here hx rfl (hb hby at_213) rfl rfl ?_
              show Steps p.tables e below (T264.setTop (mkF m 215 #[.val (.int p1), .val (.int p2), .val (.int p3), .val (.int p4), .val (.int p5), .val (.int p6), .val (.int (own_ps p1 p4)), .val (.int (own_pa p2 p5)), .val (.int (own_po p3 p6)), .val (.int (own_mode p6)), .val (.ref b7), .val (.ref b71), .val (.int (0 : Int32))] [(.ref b7), (.ref b71)])) _
              refine st267.trans ?_
              show Steps p.tables e below (T267.setTop (mkF m 218 #[.val (.int p1), .val (.int p2), .val (.int p3), .val (.int p4), .val (.int p5), .val (.int p6), .val (.int (own_ps p1 p4)), .val (.int (own_pa p2 p5)), .val (.int (own_po p3 p6)), .val (.int (own_mode p6)), .val (.ref b7), .val (.ref b71), .val (.int (0 : Int32))] [(.int (own_vR_f27 (own_bs (own_ps p1 p4)) (own_bs p1) (own_bs (own_pa p2 p5)) (own_bs p2) (own_bs (own_po p3 p6)) (own_bs p3)))])) _
              refine XS.iload X267.here hx rfl (hb hby at_218) rfl ?_
              exact kt
            by_cases hc6 : (own_vR_f27 (own_bs (own_ps p1 p4)) (own_bs p1) (own_bs (own_pa p2 p5)) (own_bs p2) (own_bs (own_po p3 p6)) (own_bs p3)) = (0 : Int32)
            ·
              obtain ⟨fs, hr, hrun, hended, hE⟩ := Stand.leaveW (s := s) (vm₁ := T178.vm) X267 hS178 (by rw [e267]; exact (Nat.le_refl _)) (hlocks := hlk) (v := some (.int (1 : Int32))) (fun h => by rw [Bd.returns] at h; cases h)
              refine ⟨_, _, k269 _ ?_, hrun, hended, _, _, rfl, ?_, hE.1, hE.2.1, hE.2.2.1, hE.2.2.2.mono (by decide) (by decide)⟩
              · show Steps p.tables e below (T267.setTop (mkF m 220 #[.val (.int p1), .val (.int p2), .val (.int p3), .val (.int p4), .val (.int p5), .val (.int p6), .val (.int (own_ps p1 p4)), .val (.int (own_pa p2 p5)), .val (.int (own_po p3 p6)), .val (.int (own_mode p6)), .val (.ref b7), .val (.ref b71), .val (.int (0 : Int32))] [(.int (0 : Int32)), (.int (own_vR_f27 (own_bs (own_ps p1 p4)) (own_bs p1) (own_bs (own_pa p2 p5)) (own_bs p2) (own_bs (own_po p3 p6)) (own_bs p3)))])) _
                refine XS.icmpNo X267.here hx rfl (hb hby at_220) rfl (teq hc6).2 ?_
                show Steps p.tables e below (T267.setTop (mkF m 223 #[.val (.int p1), .val (.int p2), .val (.int p3), .val (.int p4), .val (.int p5), .val (.int p6), .val (.int (own_ps p1 p4)), .val (.int (own_pa p2 p5)), .val (.int (own_po p3 p6)), .val (.int (own_mode p6)), .val (.ref b7), .val (.ref b71), .val (.int (0 : Int32))] [])) _
                refine XS.iconst X267.here hx rfl (hb hby at_223) ?_
                show Steps p.tables e below (T267.setTop (mkF m 224 #[.val (.int p1), .val (.int p2), .val (.int p3), .val (.int p4), .val (.int p5), .val (.int p6), .val (.int (own_ps p1 p4)), .val (.int (own_pa p2 p5)), .val (.int (own_po p3 p6)), .val (.int (own_mode p6)), .val (.ref b7), .val (.ref b71), .val (.int (0 : Int32))] [(.int (1 : Int32))])) _
                refine XS.goto X267.here hx rfl (pc0 := 224) (pc' := 228) rfl (hb hby at_224) (by decide) (by decide) ?_
                show Steps p.tables e below (T267.setTop (mkF m 228 #[.val (.int p1), .val (.int p2), .val (.int p3), .val (.int p4), .val (.int p5), .val (.int p6), .val (.int (own_ps p1 p4)), .val (.int (own_pa p2 p5)), .val (.int (own_po p3 p6)), .val (.int (own_mode p6)), .val (.ref b7), .val (.ref b71), .val (.int (0 : Int32))] [(.int (1 : Int32))])) _
                exact retN X267 hx (t := .boolean) Bd.returns (by simp) (hb hby at_228) hr
              · show own_Q0 Z p1 p2 p3 p4 p5 p6 w_COMPACT_STRINGS w_SIOOBE_FORMATTER h0 n0 _ T267.heap _
                rw [e267]
                exact ⟨(by rw [own_f0, if_neg hc1, if_neg hc2, if_neg hc3, if_pos hc4, if_pos hc5, if_pos hc6]), N268⟩
            ·
              obtain ⟨fs, hr, hrun, hended, hE⟩ := Stand.leaveW (s := s) (vm₁ := T178.vm) X267 hS178 (by rw [e267]; exact (Nat.le_refl _)) (hlocks := hlk) (v := some (.int (0 : Int32))) (fun h => by rw [Bd.returns] at h; cases h)
              refine ⟨_, _, k269 _ ?_, hrun, hended, _, _, rfl, ?_, hE.1, hE.2.1, hE.2.2.1, hE.2.2.2.mono (by decide) (by decide)⟩
              · show Steps p.tables e below (T267.setTop (mkF m 220 #[.val (.int p1), .val (.int p2), .val (.int p3), .val (.int p4), .val (.int p5), .val (.int p6), .val (.int (own_ps p1 p4)), .val (.int (own_pa p2 p5)), .val (.int (own_po p3 p6)), .val (.int (own_mode p6)), .val (.ref b7), .val (.ref b71), .val (.int (0 : Int32))] [(.int (0 : Int32)), (.int (own_vR_f27 (own_bs (own_ps p1 p4)) (own_bs p1) (own_bs (own_pa p2 p5)) (own_bs p2) (own_bs (own_po p3 p6)) (own_bs p3)))])) _
                refine XS.icmpYes X267.here hx rfl (pc0 := 220) (pc' := 227) rfl (hb hby at_220) rfl (feq hc6).2 (by decide) (by decide) ?_
                show Steps p.tables e below (T267.setTop (mkF m 227 #[.val (.int p1), .val (.int p2), .val (.int p3), .val (.int p4), .val (.int p5), .val (.int p6), .val (.int (own_ps p1 p4)), .val (.int (own_pa p2 p5)), .val (.int (own_po p3 p6)), .val (.int (own_mode p6)), .val (.ref b7), .val (.ref b71), .val (.int (0 : Int32))] [])) _
                refine XS.iconst X267.here hx rfl (hb hby at_227) ?_
                show Steps p.tables e below (T267.setTop (mkF m 228 #[.val (.int p1), .val (.int p2), .val (.int p3), .val (.int p4), .val (.int p5), .val (.int p6), .val (.int (own_ps p1 p4)), .val (.int (own_pa p2 p5)), .val (.int (own_po p3 p6)), .val (.int (own_mode p6)), .val (.ref b7), .val (.ref b71), .val (.int (0 : Int32))] [(.int (0 : Int32))])) _
                exact retN X267 hx (t := .boolean) Bd.returns (by simp) (hb hby at_228) hr
              · show own_Q0 Z p1 p2 p3 p4 p5 p6 w_COMPACT_STRINGS w_SIOOBE_FORMATTER h0 n0 _ T267.heap _
                rw [e267]
                exact ⟨(by rw [own_f0, if_neg hc1, if_neg hc2, if_neg hc3, if_pos hc4, if_pos hc5, if_neg hc6]), N268⟩
          ·
            obtain ⟨fs, hr, hrun, hended, hE⟩ := Stand.leaveW (s := s) (vm₁ := T178.vm) X264 hS178 (by rw [e264]; exact (Nat.le_refl _)) (hlocks := hlk) (v := some (.int (0 : Int32))) (fun h => by rw [Bd.returns] at h; cases h)
            refine ⟨_, _, k266 _ ?_, hrun, hended, _, _, rfl, ?_, hE.1, hE.2.1, hE.2.2.1, hE.2.2.2.mono (by decide) (by decide)⟩
            · show Steps p.tables e below (T264.setTop (mkF m 208 #[.val (.int p1), .val (.int p2), .val (.int p3), .val (.int p4), .val (.int p5), .val (.int p6), .val (.int (own_ps p1 p4)), .val (.int (own_pa p2 p5)), .val (.int (own_po p3 p6)), .val (.int (own_mode p6)), .val (.ref b7), .val (.ref b71), .val (.int (0 : Int32))] [(.int (0 : Int32)), (.int (own_vR_f27 (own_bs p1) (own_bs (own_ps p1 p4)) (own_bs p2) (own_bs (own_pa p2 p5)) (own_bs p3) (own_bs (own_po p3 p6))))])) _
              refine XS.icmpYes X264.here hx rfl (pc0 := 208) (pc' := 227) rfl (hb hby at_208) rfl (feq hc5).2 (by decide) (by decide) ?_
              show Steps p.tables e below (T264.setTop (mkF m 227 #[.val (.int p1), .val (.int p2), .val (.int p3), .val (.int p4), .val (.int p5), .val (.int p6), .val (.int (own_ps p1 p4)), .val (.int (own_pa p2 p5)), .val (.int (own_po p3 p6)), .val (.int (own_mode p6)), .val (.ref b7), .val (.ref b71), .val (.int (0 : Int32))] [])) _
              refine XS.iconst X264.here hx rfl (hb hby at_227) ?_
              show Steps p.tables e below (T264.setTop (mkF m 228 #[.val (.int p1), .val (.int p2), .val (.int p3), .val (.int p4), .val (.int p5), .val (.int p6), .val (.int (own_ps p1 p4)), .val (.int (own_pa p2 p5)), .val (.int (own_po p3 p6)), .val (.int (own_mode p6)), .val (.ref b7), .val (.ref b71), .val (.int (0 : Int32))] [(.int (0 : Int32))])) _
              exact retN X264 hx (t := .boolean) Bd.returns (by simp) (hb hby at_228) hr
            · show own_Q0 Z p1 p2 p3 p4 p5 p6 w_COMPACT_STRINGS w_SIOOBE_FORMATTER h0 n0 _ T264.heap _
              rw [e264]
              exact ⟨(by rw [own_f0, if_neg hc1, if_neg hc2, if_neg hc3, if_pos hc4, if_neg hc5]), N265⟩
        ·
          obtain ⟨v270, _, ⟨T270, L270, k270, n270⟩, -, X270, ⟨Lc270, hQ270, l270, y270, z270⟩, st270⟩ := Jvm.LawKit.callS X261 hx (y := (⟨"com/example/nanshe/nanshe/engine/RequestEqualsPinLaw", "same", "(II)Z"⟩ : MethodName)) hown178 (mvT hZ178 (hw _ (List.mem_of_getElem? (i := 120) rfl))) (mvT hZ178 (hw _ (List.mem_of_getElem? (i := 121) rfl))) (mvT hZ178 (hw _ (List.mem_of_getElem? (i := 5) rfl))) (mvT hZ178 (hw _ (List.mem_of_getElem? (i := 122) rfl))) (by decide) (backOf (W := 0) (own_rm26 l Z a0 hw [] p2 (own_pa p2 p5) T178.heap n0 Z212) hZ178 (hw _ (List.mem_of_getElem? (i := 122) rfl)) (hw _ (List.mem_of_getElem? (i := 5) rfl)) (by decide) (by decide)) (g := (mkF m 177 #[.val (.int p1), .val (.int p2), .val (.int p3), .val (.int p4), .val (.int p5), .val (.int p6), .val (.int (own_ps p1 p4)), .val (.int (own_pa p2 p5)), .val (.int (own_po p3 p6)), .val (.int (own_mode p6)), .val (.ref b7), .val (.ref b71), .unset] [(.int (own_pa p2 p5)), (.int p2)])) rfl (by rw [hml]; rfl) (argsL := [(.int p2), (.int (own_pa p2 p5))]) (rest := []) (lenOf own_pd460 rfl) rfl (by show 2 * 0 + _ ≤ _; exact Nat.le_of_eq rfl) (hb hby at_177) (fun _ _ => ⟨rfl, e261, (by decide : 32 + 0 ≤ _), (by decide : 230 + 0 ≤ _)⟩)
          dsimp only [Pt.U, Pt.locs, Pt.cells, Pt.slots] at X270 l270 y270 z270 st270 hQ270
          subst l270 y270 z270
          obtain ⟨rfl, N270q, e270⟩ := hQ270
          have N271 := Fr.app N262 N270q
          have k272 : ∀ t, Steps p.tables e below (T270.setTop (mkF m 180 #[.val (.int p1), .val (.int p2), .val (.int p3), .val (.int p4), .val (.int p5), .val (.int p6), .val (.int (own_ps p1 p4)), .val (.int (own_pa p2 p5)), .val (.int (own_po p3 p6)), .val (.int (own_mode p6)), .val (.ref b7), .val (.ref b71), .unset] [(.int (own_f26 p2 (own_pa p2 p5)))])) t → Steps p.tables e below (s₁.setTop (entryFrame m #[(.int p1), (.int p2), (.int p3), (.int p4), (.int p5), (.int p6)] maxLocals)) t := by
            intro t kt
            refine k263 t ?_
            show Steps p.tables e below (T261.setTop (mkF m 171 #[.val (.int p1), .val (.int p2), .val (.int p3), .val (.int p4), .val (.int p5), .val (.int p6), .val (.int (own_ps p1 p4)), .val (.int (own_pa p2 p5)), .val (.int (own_po p3 p6)), .val (.int (own_mode p6)), .val (.ref b7), .val (.ref b71), .unset] [(.int (own_f26 p1 (own_ps p1 p4)))])) _
            refine XS.ifNo X261.here hx rfl (hb hby at_171) rfl ((if0 _ _).trans (feq hc4).1) ?_
            show Steps p.tables e below (T261.setTop (mkF m 174 #[.val (.int p1), .val (.int p2), .val (.int p3), .val (.int p4), .val (.int p5), .val (.int p6), .val (.int (own_ps p1 p4)), .val (.int (own_pa p2 p5)), .val (.int (own_po p3 p6)), .val (.int (own_mode p6)), .val (.ref b7), .val (.ref b71), .unset] [])) _
            refine XS.iloadN X261.here hx rfl (hb hby at_174) rfl ?_
            show Steps p.tables e below (T261.setTop (mkF m 175 #[.val (.int p1), .val (.int p2), .val (.int p3), .val (.int p4), .val (.int p5), .val (.int p6), .val (.int (own_ps p1 p4)), .val (.int (own_pa p2 p5)), .val (.int (own_po p3 p6)), .val (.int (own_mode p6)), .val (.ref b7), .val (.ref b71), .unset] [(.int p2)])) _
            refine XS.iload X261.here hx rfl (hb hby at_175) rfl ?_
            show Steps p.tables e below (T261.setTop (mkF m 177 #[.val (.int p1), .val (.int p2), .val (.int p3), .val (.int p4), .val (.int p5), .val (.int p6), .val (.int (own_ps p1 p4)), .val (.int (own_pa p2 p5)), .val (.int (own_po p3 p6)), .val (.int (own_mode p6)), .val (.ref b7), .val (.ref b71), .unset] [(.int (own_pa p2 p5)), (.int p2)])) _
            refine st270 _ ?_
            exact kt
          by_cases hc7 : (own_f26 p2 (own_pa p2 p5)) = (0 : Int32)
          ·
            obtain ⟨cq273, kq273, q273a, q273b, q273c⟩ := isOf hZ178 e270 f180
            obtain ⟨v273, _, ⟨T273, L273, k273, n273⟩, -, X273, ⟨Lc273, hQ273, l273, y273, z273⟩, st273⟩ := X270.virtualBack hx (y := (⟨"com/example/nanshe/nanshe/engine/Request", "equals", "(Ljava/lang/Object;)Z"⟩ : MethodName)) (z := (⟨"com/example/nanshe/nanshe/engine/Request", "equals", "(Ljava/lang/Object;)Z"⟩ : MethodName)) hown178 (mvT hZ178 (hw _ (List.mem_of_getElem? (i := 123) rfl))) (mvT hZ178 (hw _ (List.mem_of_getElem? (i := 124) rfl))) (notFace_of_selects (args := #[]) (mvT hZ178 (hw _ (List.mem_of_getElem? (i := 126) rfl)))) (mvT hZ178 (hw _ (List.mem_of_getElem? (i := 126) rfl))) (mvT hZ178 (hw _ (List.mem_of_getElem? (i := 125) rfl))) (by decide) (backOf (W := 0) (own_vR_rm27 l Z a0 hw [] b7 b71 x1_11 kr1_11 (own_N p1) (own_bs p1) x1_91 kr1_91 (own_N (own_ps p1 p4)) (own_bs (own_ps p1 p4)) x1_20 kr1_20 (own_N p2) (own_bs p2) x1_116 kr1_116 (own_N (own_pa p2 p5)) (own_bs (own_pa p2 p5)) x1_33 kr1_33 (own_N p3) (own_bs p3) x1_145 kr1_145 (own_N (own_po p3 p6)) (own_bs (own_po p3 p6)) r11 r91 w_COMPACT_STRINGS r20 r116 r33 r145 T178.heap n0 Z212 O179 f184 f203 f188 f207 f192 f211 (own_okN _) (own_okN _) (own_okN _) (own_okN _) (own_okN _) (own_okN _) ne_b7_b71 hcs Q178_0 f193 Q178_1 S_COMPACT_STRINGS f182 f201 f183 f202 ne_r11_r91 f200 f181 f194 Q178_2 f186 f205 f187 f206 ne_r20_r116 f204 f185 f195 Q178_3 f190 f209 f191 f210 ne_r33_r145 f208 f189) hZ178 (hw _ (List.mem_of_getElem? (i := 127) rfl)) (hw _ (List.mem_of_getElem? (i := 2) rfl)) (by decide) (by decide)) q273a q273c (g := (mkF m 203 #[.val (.int p1), .val (.int p2), .val (.int p3), .val (.int p4), .val (.int p5), .val (.int p6), .val (.int (own_ps p1 p4)), .val (.int (own_pa p2 p5)), .val (.int (own_po p3 p6)), .val (.int (own_mode p6)), .val (.ref b7), .val (.ref b71), .val (.int (0 : Int32))] [(.ref b71), (.ref b7)])) rfl (by rw [hml]; rfl) (Steps.refl _) (argsL := [(.ref b71)]) (rest := []) (lenOf own_pd385 rfl) rfl (by show 2 * 0 + _ ≤ _; exact Nat.le_of_eq rfl) (hb hby at_203) (fun _ _ => ⟨rfl, e270, (by decide : 32 + 0 ≤ _), (by decide : 230 + 0 ≤ _)⟩)
            dsimp only [Pt.U, Pt.locs, Pt.cells, Pt.slots] at X273 l273 y273 z273 st273 hQ273
            subst l273 y273 z273
            obtain ⟨rfl, N273q, e273⟩ := hQ273
            have N274 := Fr.app N271 N273q
            have k275 : ∀ t, Steps p.tables e below (T273.setTop (mkF m 208 #[.val (.int p1), .val (.int p2), .val (.int p3), .val (.int p4), .val (.int p5), .val (.int p6), .val (.int (own_ps p1 p4)), .val (.int (own_pa p2 p5)), .val (.int (own_po p3 p6)), .val (.int (own_mode p6)), .val (.ref b7), .val (.ref b71), .val (.int (0 : Int32))] [(.int (0 : Int32)), (.int (own_vR_f27 (own_bs p1) (own_bs (own_ps p1 p4)) (own_bs p2) (own_bs (own_pa p2 p5)) (own_bs p3) (own_bs (own_po p3 p6))))])) t → Steps p.tables e below (s₁.setTop (entryFrame m #[(.int p1), (.int p2), (.int p3), (.int p4), (.int p5), (.int p6)] maxLocals)) t := by
              intro t kt
              refine k272 t ?_
              show Steps p.tables e below (T270.setTop (mkF m 180 #[.val (.int p1), .val (.int p2), .val (.int p3), .val (.int p4), .val (.int p5), .val (.int p6), .val (.int (own_ps p1 p4)), .val (.int (own_pa p2 p5)), .val (.int (own_po p3 p6)), .val (.int (own_mode p6)), .val (.ref b7), .val (.ref b71), .unset] [(.int (own_f26 p2 (own_pa p2 p5)))])) _
              refine XS.ifYes X270.here hx rfl (pc0 := 180) (pc' := 196) rfl (hb hby at_180) rfl ((if0 _ _).trans (teq hc7).1) (by decide) (by decide) ?_
              show Steps p.tables e below (T270.setTop (mkF m 196 #[.val (.int p1), .val (.int p2), .val (.int p3), .val (.int p4), .val (.int p5), .val (.int p6), .val (.int (own_ps p1 p4)), .val (.int (own_pa p2 p5)), .val (.int (own_po p3 p6)), .val (.int (own_mode p6)), .val (.ref b7), .val (.ref b71), .unset] [])) _
              refine XS.iconst X270.here hx rfl (hb hby at_196) ?_
              show Steps p.tables e below (T270.setTop (mkF m 197 #[.val (.int p1), .val (.int p2), .val (.int p3), .val (.int p4), .val (.int p5), .val (.int p6), .val (.int (own_ps p1 p4)), .val (.int (own_pa p2 p5)), .val (.int (own_po p3 p6)), .val (.int (own_mode p6)), .val (.ref b7), .val (.ref b71), .unset] [(.int (0 : Int32))])) _
              refine XS.istore X270.here hx rfl (hb hby at_197) rfl (l' := #[.val (.int p1), .val (.int p2), .val (.int p3), .val (.int p4), .val (.int p5), .val (.int p6), .val (.int (own_ps p1 p4)), .val (.int (own_pa p2 p5)), .val (.int (own_po p3 p6)), .val (.int (own_mode p6)), .val (.ref b7), .val (.ref b71), .val (.int (0 : Int32))]) rfl ?_
              show Steps p.tables e below (T270.setTop (mkF m 199 #[.val (.int p1), .val (.int p2), .val (.int p3), .val (.int p4), .val (.int p5), .val (.int p6), .val (.int (own_ps p1 p4)), .val (.int (own_pa p2 p5)), .val (.int (own_po p3 p6)), .val (.int (own_mode p6)), .val (.ref b7), .val (.ref b71), .val (.int (0 : Int32))] [])) _
              refine XS.aload X270.here hx rfl (hb hby at_199) rfl rfl ?_
              show Steps p.tables e below (T270.setTop (mkF m 201 #[.val (.int p1), .val (.int p2), .val (.int p3), .val (.int p4), .val (.int p5), .val (.int p6), .val (.int (own_ps p1 p4)), .val (.int (own_pa p2 p5)), .val (.int (own_po p3 p6)), .val (.int (own_mode p6)), .val (.ref b7), .val (.ref b71), .val (.int (0 : Int32))] [(.ref b7)])) _
              refine XS.aload X270.here hx rfl (hb hby at_201) rfl rfl ?_
              show Steps p.tables e below (T270.setTop (mkF m 203 #[.val (.int p1), .val (.int p2), .val (.int p3), .val (.int p4), .val (.int p5), .val (.int p6), .val (.int (own_ps p1 p4)), .val (.int (own_pa p2 p5)), .val (.int (own_po p3 p6)), .val (.int (own_mode p6)), .val (.ref b7), .val (.ref b71), .val (.int (0 : Int32))] [(.ref b71), (.ref b7)])) _
              refine st273.trans ?_
              show Steps p.tables e below (T273.setTop (mkF m 206 #[.val (.int p1), .val (.int p2), .val (.int p3), .val (.int p4), .val (.int p5), .val (.int p6), .val (.int (own_ps p1 p4)), .val (.int (own_pa p2 p5)), .val (.int (own_po p3 p6)), .val (.int (own_mode p6)), .val (.ref b7), .val (.ref b71), .val (.int (0 : Int32))] [(.int (own_vR_f27 (own_bs p1) (own_bs (own_ps p1 p4)) (own_bs p2) (own_bs (own_pa p2 p5)) (own_bs p3) (own_bs (own_po p3 p6))))])) _
              refine XS.iload X273.here hx rfl (hb hby at_206) rfl ?_
              exact kt
            by_cases hc8 : (own_vR_f27 (own_bs p1) (own_bs (own_ps p1 p4)) (own_bs p2) (own_bs (own_pa p2 p5)) (own_bs p3) (own_bs (own_po p3 p6))) = (0 : Int32)
            ·
              obtain ⟨cq276, kq276, q276a, q276b, q276c⟩ := isOf hZ178 e273 Q178_0
              obtain ⟨v276, _, ⟨T276, L276, k276, n276⟩, -, X276, ⟨Lc276, hQ276, l276, y276, z276⟩, st276⟩ := X273.virtualBack hx (y := (⟨"com/example/nanshe/nanshe/engine/Request", "equals", "(Ljava/lang/Object;)Z"⟩ : MethodName)) (z := (⟨"com/example/nanshe/nanshe/engine/Request", "equals", "(Ljava/lang/Object;)Z"⟩ : MethodName)) hown178 (mvT hZ178 (hw _ (List.mem_of_getElem? (i := 123) rfl))) (mvT hZ178 (hw _ (List.mem_of_getElem? (i := 124) rfl))) (notFace_of_selects (args := #[]) (mvT hZ178 (hw _ (List.mem_of_getElem? (i := 126) rfl)))) (mvT hZ178 (hw _ (List.mem_of_getElem? (i := 126) rfl))) (mvT hZ178 (hw _ (List.mem_of_getElem? (i := 125) rfl))) (by decide) (backOf (W := 0) (own_vR_rm27 l Z a0 hw [] b71 b7 x1_91 kr1_91 (own_N (own_ps p1 p4)) (own_bs (own_ps p1 p4)) x1_11 kr1_11 (own_N p1) (own_bs p1) x1_116 kr1_116 (own_N (own_pa p2 p5)) (own_bs (own_pa p2 p5)) x1_20 kr1_20 (own_N p2) (own_bs p2) x1_145 kr1_145 (own_N (own_po p3 p6)) (own_bs (own_po p3 p6)) x1_33 kr1_33 (own_N p3) (own_bs p3) r91 r11 w_COMPACT_STRINGS r116 r20 r145 r33 T178.heap n0 Z212 O179 f203 f184 f207 f188 f211 f192 (own_okN _) (own_okN _) (own_okN _) (own_okN _) (own_okN _) (own_okN _) (Ne.symm ne_b7_b71) hcs f180 Q178_1 f193 S_COMPACT_STRINGS f201 f182 f202 f183 (Ne.symm ne_r11_r91) f181 f200 Q178_2 f194 f205 f186 f206 f187 (Ne.symm ne_r20_r116) f185 f204 Q178_3 f195 f209 f190 f210 f191 (Ne.symm ne_r33_r145) f189 f208) hZ178 (hw _ (List.mem_of_getElem? (i := 127) rfl)) (hw _ (List.mem_of_getElem? (i := 2) rfl)) (by decide) (by decide)) q276a q276c (g := (mkF m 215 #[.val (.int p1), .val (.int p2), .val (.int p3), .val (.int p4), .val (.int p5), .val (.int p6), .val (.int (own_ps p1 p4)), .val (.int (own_pa p2 p5)), .val (.int (own_po p3 p6)), .val (.int (own_mode p6)), .val (.ref b7), .val (.ref b71), .val (.int (0 : Int32))] [(.ref b7), (.ref b71)])) rfl (by rw [hml]; rfl) (Steps.refl _) (argsL := [(.ref b7)]) (rest := []) (lenOf own_pd385 rfl) rfl (by show 2 * 0 + _ ≤ _; exact Nat.le_of_eq rfl) (hb hby at_215) (fun _ _ => ⟨rfl, e273, (by decide : 32 + 0 ≤ _), (by decide : 230 + 0 ≤ _)⟩)
              dsimp only [Pt.U, Pt.locs, Pt.cells, Pt.slots] at X276 l276 y276 z276 st276 hQ276
              subst l276 y276 z276
              obtain ⟨rfl, N276q, e276⟩ := hQ276
              have N277 := Fr.app N274 N276q
              have k278 : ∀ t, Steps p.tables e below (T276.setTop (mkF m 220 #[.val (.int p1), .val (.int p2), .val (.int p3), .val (.int p4), .val (.int p5), .val (.int p6), .val (.int (own_ps p1 p4)), .val (.int (own_pa p2 p5)), .val (.int (own_po p3 p6)), .val (.int (own_mode p6)), .val (.ref b7), .val (.ref b71), .val (.int (0 : Int32))] [(.int (0 : Int32)), (.int (own_vR_f27 (own_bs (own_ps p1 p4)) (own_bs p1) (own_bs (own_pa p2 p5)) (own_bs p2) (own_bs (own_po p3 p6)) (own_bs p3)))])) t → Steps p.tables e below (s₁.setTop (entryFrame m #[(.int p1), (.int p2), (.int p3), (.int p4), (.int p5), (.int p6)] maxLocals)) t := by
                intro t kt
                refine k275 t ?_
                show Steps p.tables e below (T273.setTop (mkF m 208 #[.val (.int p1), .val (.int p2), .val (.int p3), .val (.int p4), .val (.int p5), .val (.int p6), .val (.int (own_ps p1 p4)), .val (.int (own_pa p2 p5)), .val (.int (own_po p3 p6)), .val (.int (own_mode p6)), .val (.ref b7), .val (.ref b71), .val (.int (0 : Int32))] [(.int (0 : Int32)), (.int (own_vR_f27 (own_bs p1) (own_bs (own_ps p1 p4)) (own_bs p2) (own_bs (own_pa p2 p5)) (own_bs p3) (own_bs (own_po p3 p6))))])) _
                refine XS.icmpNo X273.here hx rfl (hb hby at_208) rfl (teq hc8).2 ?_
                show Steps p.tables e below (T273.setTop (mkF m 211 #[.val (.int p1), .val (.int p2), .val (.int p3), .val (.int p4), .val (.int p5), .val (.int p6), .val (.int (own_ps p1 p4)), .val (.int (own_pa p2 p5)), .val (.int (own_po p3 p6)), .val (.int (own_mode p6)), .val (.ref b7), .val (.ref b71), .val (.int (0 : Int32))] [])) _
                refine XS.aload X273.here hx rfl (hb hby at_211) rfl rfl ?_
                show Steps p.tables e below (T273.setTop (mkF m 213 #[.val (.int p1), .val (.int p2), .val (.int p3), .val (.int p4), .val (.int p5), .val (.int p6), .val (.int (own_ps p1 p4)), .val (.int (own_pa p2 p5)), .val (.int (own_po p3 p6)), .val (.int (own_mode p6)), .val (.ref b7), .val (.ref b71), .val (.int (0 : Int32))] [(.ref b71)])) _
                refine XS.aload X273.here hx rfl (hb hby at_213) rfl rfl ?_
                show Steps p.tables e below (T273.setTop (mkF m 215 #[.val (.int p1), .val (.int p2), .val (.int p3), .val (.int p4), .val (.int p5), .val (.int p6), .val (.int (own_ps p1 p4)), .val (.int (own_pa p2 p5)), .val (.int (own_po p3 p6)), .val (.int (own_mode p6)), .val (.ref b7), .val (.ref b71), .val (.int (0 : Int32))] [(.ref b7), (.ref b71)])) _
                refine st276.trans ?_
                show Steps p.tables e below (T276.setTop (mkF m 218 #[.val (.int p1), .val (.int p2), .val (.int p3), .val (.int p4), .val (.int p5), .val (.int p6), .val (.int (own_ps p1 p4)), .val (.int (own_pa p2 p5)), .val (.int (own_po p3 p6)), .val (.int (own_mode p6)), .val (.ref b7), .val (.ref b71), .val (.int (0 : Int32))] [(.int (own_vR_f27 (own_bs (own_ps p1 p4)) (own_bs p1) (own_bs (own_pa p2 p5)) (own_bs p2) (own_bs (own_po p3 p6)) (own_bs p3)))])) _
                refine XS.iload X276.here hx rfl (hb hby at_218) rfl ?_
                exact kt
              by_cases hc9 : (own_vR_f27 (own_bs (own_ps p1 p4)) (own_bs p1) (own_bs (own_pa p2 p5)) (own_bs p2) (own_bs (own_po p3 p6)) (own_bs p3)) = (0 : Int32)
              ·
                obtain ⟨fs, hr, hrun, hended, hE⟩ := Stand.leaveW (s := s) (vm₁ := T178.vm) X276 hS178 (by rw [e276]; exact (Nat.le_refl _)) (hlocks := hlk) (v := some (.int (1 : Int32))) (fun h => by rw [Bd.returns] at h; cases h)
                refine ⟨_, _, k278 _ ?_, hrun, hended, _, _, rfl, ?_, hE.1, hE.2.1, hE.2.2.1, hE.2.2.2.mono (by decide) (by decide)⟩
                · show Steps p.tables e below (T276.setTop (mkF m 220 #[.val (.int p1), .val (.int p2), .val (.int p3), .val (.int p4), .val (.int p5), .val (.int p6), .val (.int (own_ps p1 p4)), .val (.int (own_pa p2 p5)), .val (.int (own_po p3 p6)), .val (.int (own_mode p6)), .val (.ref b7), .val (.ref b71), .val (.int (0 : Int32))] [(.int (0 : Int32)), (.int (own_vR_f27 (own_bs (own_ps p1 p4)) (own_bs p1) (own_bs (own_pa p2 p5)) (own_bs p2) (own_bs (own_po p3 p6)) (own_bs p3)))])) _
                  refine XS.icmpNo X276.here hx rfl (hb hby at_220) rfl (teq hc9).2 ?_
                  show Steps p.tables e below (T276.setTop (mkF m 223 #[.val (.int p1), .val (.int p2), .val (.int p3), .val (.int p4), .val (.int p5), .val (.int p6), .val (.int (own_ps p1 p4)), .val (.int (own_pa p2 p5)), .val (.int (own_po p3 p6)), .val (.int (own_mode p6)), .val (.ref b7), .val (.ref b71), .val (.int (0 : Int32))] [])) _
                  refine XS.iconst X276.here hx rfl (hb hby at_223) ?_
                  show Steps p.tables e below (T276.setTop (mkF m 224 #[.val (.int p1), .val (.int p2), .val (.int p3), .val (.int p4), .val (.int p5), .val (.int p6), .val (.int (own_ps p1 p4)), .val (.int (own_pa p2 p5)), .val (.int (own_po p3 p6)), .val (.int (own_mode p6)), .val (.ref b7), .val (.ref b71), .val (.int (0 : Int32))] [(.int (1 : Int32))])) _
                  refine XS.goto X276.here hx rfl (pc0 := 224) (pc' := 228) rfl (hb hby at_224) (by decide) (by decide) ?_
                  show Steps p.tables e below (T276.setTop (mkF m 228 #[.val (.int p1), .val (.int p2), .val (.int p3), .val (.int p4), .val (.int p5), .val (.int p6), .val (.int (own_ps p1 p4)), .val (.int (own_pa p2 p5)), .val (.int (own_po p3 p6)), .val (.int (own_mode p6)), .val (.ref b7), .val (.ref b71), .val (.int (0 : Int32))] [(.int (1 : Int32))])) _
                  exact retN X276 hx (t := .boolean) Bd.returns (by simp) (hb hby at_228) hr
                · show own_Q0 Z p1 p2 p3 p4 p5 p6 w_COMPACT_STRINGS w_SIOOBE_FORMATTER h0 n0 _ T276.heap _
                  rw [e276]
                  exact ⟨(by rw [own_f0, if_neg hc1, if_neg hc2, if_neg hc3, if_neg hc4, if_pos hc7, if_pos hc8, if_pos hc9]), N277⟩
              ·
                obtain ⟨fs, hr, hrun, hended, hE⟩ := Stand.leaveW (s := s) (vm₁ := T178.vm) X276 hS178 (by rw [e276]; exact (Nat.le_refl _)) (hlocks := hlk) (v := some (.int (0 : Int32))) (fun h => by rw [Bd.returns] at h; cases h)
                refine ⟨_, _, k278 _ ?_, hrun, hended, _, _, rfl, ?_, hE.1, hE.2.1, hE.2.2.1, hE.2.2.2.mono (by decide) (by decide)⟩
                · show Steps p.tables e below (T276.setTop (mkF m 220 #[.val (.int p1), .val (.int p2), .val (.int p3), .val (.int p4), .val (.int p5), .val (.int p6), .val (.int (own_ps p1 p4)), .val (.int (own_pa p2 p5)), .val (.int (own_po p3 p6)), .val (.int (own_mode p6)), .val (.ref b7), .val (.ref b71), .val (.int (0 : Int32))] [(.int (0 : Int32)), (.int (own_vR_f27 (own_bs (own_ps p1 p4)) (own_bs p1) (own_bs (own_pa p2 p5)) (own_bs p2) (own_bs (own_po p3 p6)) (own_bs p3)))])) _
                  refine XS.icmpYes X276.here hx rfl (pc0 := 220) (pc' := 227) rfl (hb hby at_220) rfl (feq hc9).2 (by decide) (by decide) ?_
                  show Steps p.tables e below (T276.setTop (mkF m 227 #[.val (.int p1), .val (.int p2), .val (.int p3), .val (.int p4), .val (.int p5), .val (.int p6), .val (.int (own_ps p1 p4)), .val (.int (own_pa p2 p5)), .val (.int (own_po p3 p6)), .val (.int (own_mode p6)), .val (.ref b7), .val (.ref b71), .val (.int (0 : Int32))] [])) _
                  refine XS.iconst X276.here hx rfl (hb hby at_227) ?_
                  show Steps p.tables e below (T276.setTop (mkF m 228 #[.val (.int p1), .val (.int p2), .val (.int p3), .val (.int p4), .val (.int p5), .val (.int p6), .val (.int (own_ps p1 p4)), .val (.int (own_pa p2 p5)), .val (.int (own_po p3 p6)), .val (.int (own_mode p6)), .val (.ref b7), .val (.ref b71), .val (.int (0 : Int32))] [(.int (0 : Int32))])) _
                  exact retN X276 hx (t := .boolean) Bd.returns (by simp) (hb hby at_228) hr
                · show own_Q0 Z p1 p2 p3 p4 p5 p6 w_COMPACT_STRINGS w_SIOOBE_FORMATTER h0 n0 _ T276.heap _
                  rw [e276]
                  exact ⟨(by rw [own_f0, if_neg hc1, if_neg hc2, if_neg hc3, if_neg hc4, if_pos hc7, if_pos hc8, if_neg hc9]), N277⟩
            ·
              obtain ⟨fs, hr, hrun, hended, hE⟩ := Stand.leaveW (s := s) (vm₁ := T178.vm) X273 hS178 (by rw [e273]; exact (Nat.le_refl _)) (hlocks := hlk) (v := some (.int (0 : Int32))) (fun h => by rw [Bd.returns] at h; cases h)
              refine ⟨_, _, k275 _ ?_, hrun, hended, _, _, rfl, ?_, hE.1, hE.2.1, hE.2.2.1, hE.2.2.2.mono (by decide) (by decide)⟩
              · show Steps p.tables e below (T273.setTop (mkF m 208 #[.val (.int p1), .val (.int p2), .val (.int p3), .val (.int p4), .val (.int p5), .val (.int p6), .val (.int (own_ps p1 p4)), .val (.int (own_pa p2 p5)), .val (.int (own_po p3 p6)), .val (.int (own_mode p6)), .val (.ref b7), .val (.ref b71), .val (.int (0 : Int32))] [(.int (0 : Int32)), (.int (own_vR_f27 (own_bs p1) (own_bs (own_ps p1 p4)) (own_bs p2) (own_bs (own_pa p2 p5)) (own_bs p3) (own_bs (own_po p3 p6))))])) _
                refine XS.icmpYes X273.here hx rfl (pc0 := 208) (pc' := 227) rfl (hb hby at_208) rfl (feq hc8).2 (by decide) (by decide) ?_
                show Steps p.tables e below (T273.setTop (mkF m 227 #[.val (.int p1), .val (.int p2), .val (.int p3), .val (.int p4), .val (.int p5), .val (.int p6), .val (.int (own_ps p1 p4)), .val (.int (own_pa p2 p5)), .val (.int (own_po p3 p6)), .val (.int (own_mode p6)), .val (.ref b7), .val (.ref b71), .val (.int (0 : Int32))] [])) _
                refine XS.iconst X273.here hx rfl (hb hby at_227) ?_
                show Steps p.tables e below (T273.setTop (mkF m 228 #[.val (.int p1), .val (.int p2), .val (.int p3), .val (.int p4), .val (.int p5), .val (.int p6), .val (.int (own_ps p1 p4)), .val (.int (own_pa p2 p5)), .val (.int (own_po p3 p6)), .val (.int (own_mode p6)), .val (.ref b7), .val (.ref b71), .val (.int (0 : Int32))] [(.int (0 : Int32))])) _
                exact retN X273 hx (t := .boolean) Bd.returns (by simp) (hb hby at_228) hr
              · show own_Q0 Z p1 p2 p3 p4 p5 p6 w_COMPACT_STRINGS w_SIOOBE_FORMATTER h0 n0 _ T273.heap _
                rw [e273]
                exact ⟨(by rw [own_f0, if_neg hc1, if_neg hc2, if_neg hc3, if_neg hc4, if_pos hc7, if_neg hc8]), N274⟩
          ·
            obtain ⟨v279, _, ⟨T279, L279, k279, n279⟩, -, X279, ⟨Lc279, hQ279, l279, y279, z279⟩, st279⟩ := Jvm.LawKit.callS X270 hx (y := (⟨"com/example/nanshe/nanshe/engine/RequestEqualsPinLaw", "same", "(II)Z"⟩ : MethodName)) hown178 (mvT hZ178 (hw _ (List.mem_of_getElem? (i := 120) rfl))) (mvT hZ178 (hw _ (List.mem_of_getElem? (i := 121) rfl))) (mvT hZ178 (hw _ (List.mem_of_getElem? (i := 5) rfl))) (mvT hZ178 (hw _ (List.mem_of_getElem? (i := 122) rfl))) (by decide) (backOf (W := 0) (own_rm26 l Z a0 hw [] p3 (own_po p3 p6) T178.heap n0 Z212) hZ178 (hw _ (List.mem_of_getElem? (i := 122) rfl)) (hw _ (List.mem_of_getElem? (i := 5) rfl)) (by decide) (by decide)) (g := (mkF m 186 #[.val (.int p1), .val (.int p2), .val (.int p3), .val (.int p4), .val (.int p5), .val (.int p6), .val (.int (own_ps p1 p4)), .val (.int (own_pa p2 p5)), .val (.int (own_po p3 p6)), .val (.int (own_mode p6)), .val (.ref b7), .val (.ref b71), .unset] [(.int (own_po p3 p6)), (.int p3)])) rfl (by rw [hml]; rfl) (argsL := [(.int p3), (.int (own_po p3 p6))]) (rest := []) (lenOf own_pd460 rfl) rfl (by show 2 * 0 + _ ≤ _; exact Nat.le_of_eq rfl) (hb hby at_186) (fun _ _ => ⟨rfl, e270, (by decide : 32 + 0 ≤ _), (by decide : 230 + 0 ≤ _)⟩)
            dsimp only [Pt.U, Pt.locs, Pt.cells, Pt.slots] at X279 l279 y279 z279 st279 hQ279
            subst l279 y279 z279
            obtain ⟨rfl, N279q, e279⟩ := hQ279
            have N280 := Fr.app N271 N279q
            have k281 : ∀ t, Steps p.tables e below (T279.setTop (mkF m 189 #[.val (.int p1), .val (.int p2), .val (.int p3), .val (.int p4), .val (.int p5), .val (.int p6), .val (.int (own_ps p1 p4)), .val (.int (own_pa p2 p5)), .val (.int (own_po p3 p6)), .val (.int (own_mode p6)), .val (.ref b7), .val (.ref b71), .unset] [(.int (own_f26 p3 (own_po p3 p6)))])) t → Steps p.tables e below (s₁.setTop (entryFrame m #[(.int p1), (.int p2), (.int p3), (.int p4), (.int p5), (.int p6)] maxLocals)) t := by
              intro t kt
              refine k272 t ?_
              show Steps p.tables e below (T270.setTop (mkF m 180 #[.val (.int p1), .val (.int p2), .val (.int p3), .val (.int p4), .val (.int p5), .val (.int p6), .val (.int (own_ps p1 p4)), .val (.int (own_pa p2 p5)), .val (.int (own_po p3 p6)), .val (.int (own_mode p6)), .val (.ref b7), .val (.ref b71), .unset] [(.int (own_f26 p2 (own_pa p2 p5)))])) _
              refine XS.ifNo X270.here hx rfl (hb hby at_180) rfl ((if0 _ _).trans (feq hc7).1) ?_
              show Steps p.tables e below (T270.setTop (mkF m 183 #[.val (.int p1), .val (.int p2), .val (.int p3), .val (.int p4), .val (.int p5), .val (.int p6), .val (.int (own_ps p1 p4)), .val (.int (own_pa p2 p5)), .val (.int (own_po p3 p6)), .val (.int (own_mode p6)), .val (.ref b7), .val (.ref b71), .unset] [])) _
              refine XS.iloadN X270.here hx rfl (hb hby at_183) rfl ?_
              show Steps p.tables e below (T270.setTop (mkF m 184 #[.val (.int p1), .val (.int p2), .val (.int p3), .val (.int p4), .val (.int p5), .val (.int p6), .val (.int (own_ps p1 p4)), .val (.int (own_pa p2 p5)), .val (.int (own_po p3 p6)), .val (.int (own_mode p6)), .val (.ref b7), .val (.ref b71), .unset] [(.int p3)])) _
              refine XS.iload X270.here hx rfl (hb hby at_184) rfl ?_
              show Steps p.tables e below (T270.setTop (mkF m 186 #[.val (.int p1), .val (.int p2), .val (.int p3), .val (.int p4), .val (.int p5), .val (.int p6), .val (.int (own_ps p1 p4)), .val (.int (own_pa p2 p5)), .val (.int (own_po p3 p6)), .val (.int (own_mode p6)), .val (.ref b7), .val (.ref b71), .unset] [(.int (own_po p3 p6)), (.int p3)])) _
              refine st279 _ ?_
              exact kt
            by_cases hc10 : (own_f26 p3 (own_po p3 p6)) = (0 : Int32)
            ·
              obtain ⟨cq282, kq282, q282a, q282b, q282c⟩ := isOf hZ178 e279 f180
              obtain ⟨v282, _, ⟨T282, L282, k282, n282⟩, -, X282, ⟨Lc282, hQ282, l282, y282, z282⟩, st282⟩ := X279.virtualBack hx (y := (⟨"com/example/nanshe/nanshe/engine/Request", "equals", "(Ljava/lang/Object;)Z"⟩ : MethodName)) (z := (⟨"com/example/nanshe/nanshe/engine/Request", "equals", "(Ljava/lang/Object;)Z"⟩ : MethodName)) hown178 (mvT hZ178 (hw _ (List.mem_of_getElem? (i := 123) rfl))) (mvT hZ178 (hw _ (List.mem_of_getElem? (i := 124) rfl))) (notFace_of_selects (args := #[]) (mvT hZ178 (hw _ (List.mem_of_getElem? (i := 126) rfl)))) (mvT hZ178 (hw _ (List.mem_of_getElem? (i := 126) rfl))) (mvT hZ178 (hw _ (List.mem_of_getElem? (i := 125) rfl))) (by decide) (backOf (W := 0) (own_vR_rm27 l Z a0 hw [] b7 b71 x1_11 kr1_11 (own_N p1) (own_bs p1) x1_91 kr1_91 (own_N (own_ps p1 p4)) (own_bs (own_ps p1 p4)) x1_20 kr1_20 (own_N p2) (own_bs p2) x1_116 kr1_116 (own_N (own_pa p2 p5)) (own_bs (own_pa p2 p5)) x1_33 kr1_33 (own_N p3) (own_bs p3) x1_145 kr1_145 (own_N (own_po p3 p6)) (own_bs (own_po p3 p6)) r11 r91 w_COMPACT_STRINGS r20 r116 r33 r145 T178.heap n0 Z212 O179 f184 f203 f188 f207 f192 f211 (own_okN _) (own_okN _) (own_okN _) (own_okN _) (own_okN _) (own_okN _) ne_b7_b71 hcs Q178_0 f193 Q178_1 S_COMPACT_STRINGS f182 f201 f183 f202 ne_r11_r91 f200 f181 f194 Q178_2 f186 f205 f187 f206 ne_r20_r116 f204 f185 f195 Q178_3 f190 f209 f191 f210 ne_r33_r145 f208 f189) hZ178 (hw _ (List.mem_of_getElem? (i := 127) rfl)) (hw _ (List.mem_of_getElem? (i := 2) rfl)) (by decide) (by decide)) q282a q282c (g := (mkF m 203 #[.val (.int p1), .val (.int p2), .val (.int p3), .val (.int p4), .val (.int p5), .val (.int p6), .val (.int (own_ps p1 p4)), .val (.int (own_pa p2 p5)), .val (.int (own_po p3 p6)), .val (.int (own_mode p6)), .val (.ref b7), .val (.ref b71), .val (.int (0 : Int32))] [(.ref b71), (.ref b7)])) rfl (by rw [hml]; rfl) (Steps.refl _) (argsL := [(.ref b71)]) (rest := []) (lenOf own_pd385 rfl) rfl (by show 2 * 0 + _ ≤ _; exact Nat.le_of_eq rfl) (hb hby at_203) (fun _ _ => ⟨rfl, e279, (by decide : 32 + 0 ≤ _), (by decide : 230 + 0 ≤ _)⟩)
              dsimp only [Pt.U, Pt.locs, Pt.cells, Pt.slots] at X282 l282 y282 z282 st282 hQ282
              subst l282 y282 z282
              obtain ⟨rfl, N282q, e282⟩ := hQ282
              have N283 := Fr.app N280 N282q
              have k284 : ∀ t, Steps p.tables e below (T282.setTop (mkF m 208 #[.val (.int p1), .val (.int p2), .val (.int p3), .val (.int p4), .val (.int p5), .val (.int p6), .val (.int (own_ps p1 p4)), .val (.int (own_pa p2 p5)), .val (.int (own_po p3 p6)), .val (.int (own_mode p6)), .val (.ref b7), .val (.ref b71), .val (.int (0 : Int32))] [(.int (0 : Int32)), (.int (own_vR_f27 (own_bs p1) (own_bs (own_ps p1 p4)) (own_bs p2) (own_bs (own_pa p2 p5)) (own_bs p3) (own_bs (own_po p3 p6))))])) t → Steps p.tables e below (s₁.setTop (entryFrame m #[(.int p1), (.int p2), (.int p3), (.int p4), (.int p5), (.int p6)] maxLocals)) t := by
                intro t kt
                refine k281 t ?_
                show Steps p.tables e below (T279.setTop (mkF m 189 #[.val (.int p1), .val (.int p2), .val (.int p3), .val (.int p4), .val (.int p5), .val (.int p6), .val (.int (own_ps p1 p4)), .val (.int (own_pa p2 p5)), .val (.int (own_po p3 p6)), .val (.int (own_mode p6)), .val (.ref b7), .val (.ref b71), .unset] [(.int (own_f26 p3 (own_po p3 p6)))])) _
                refine XS.ifYes X279.here hx rfl (pc0 := 189) (pc' := 196) rfl (hb hby at_189) rfl ((if0 _ _).trans (teq hc10).1) (by decide) (by decide) ?_
                show Steps p.tables e below (T279.setTop (mkF m 196 #[.val (.int p1), .val (.int p2), .val (.int p3), .val (.int p4), .val (.int p5), .val (.int p6), .val (.int (own_ps p1 p4)), .val (.int (own_pa p2 p5)), .val (.int (own_po p3 p6)), .val (.int (own_mode p6)), .val (.ref b7), .val (.ref b71), .unset] [])) _
                refine XS.iconst X279.here hx rfl (hb hby at_196) ?_
                show Steps p.tables e below (T279.setTop (mkF m 197 #[.val (.int p1), .val (.int p2), .val (.int p3), .val (.int p4), .val (.int p5), .val (.int p6), .val (.int (own_ps p1 p4)), .val (.int (own_pa p2 p5)), .val (.int (own_po p3 p6)), .val (.int (own_mode p6)), .val (.ref b7), .val (.ref b71), .unset] [(.int (0 : Int32))])) _
                refine XS.istore X279.here hx rfl (hb hby at_197) rfl (l' := #[.val (.int p1), .val (.int p2), .val (.int p3), .val (.int p4), .val (.int p5), .val (.int p6), .val (.int (own_ps p1 p4)), .val (.int (own_pa p2 p5)), .val (.int (own_po p3 p6)), .val (.int (own_mode p6)), .val (.ref b7), .val (.ref b71), .val (.int (0 : Int32))]) rfl ?_
                show Steps p.tables e below (T279.setTop (mkF m 199 #[.val (.int p1), .val (.int p2), .val (.int p3), .val (.int p4), .val (.int p5), .val (.int p6), .val (.int (own_ps p1 p4)), .val (.int (own_pa p2 p5)), .val (.int (own_po p3 p6)), .val (.int (own_mode p6)), .val (.ref b7), .val (.ref b71), .val (.int (0 : Int32))] [])) _
                refine XS.aload X279.here hx rfl (hb hby at_199) rfl rfl ?_
                show Steps p.tables e below (T279.setTop (mkF m 201 #[.val (.int p1), .val (.int p2), .val (.int p3), .val (.int p4), .val (.int p5), .val (.int p6), .val (.int (own_ps p1 p4)), .val (.int (own_pa p2 p5)), .val (.int (own_po p3 p6)), .val (.int (own_mode p6)), .val (.ref b7), .val (.ref b71), .val (.int (0 : Int32))] [(.ref b7)])) _
                refine XS.aload X279.here hx rfl (hb hby at_201) rfl rfl ?_
                show Steps p.tables e below (T279.setTop (mkF m 203 #[.val (.int p1), .val (.int p2), .val (.int p3), .val (.int p4), .val (.int p5), .val (.int p6), .val (.int (own_ps p1 p4)), .val (.int (own_pa p2 p5)), .val (.int (own_po p3 p6)), .val (.int (own_mode p6)), .val (.ref b7), .val (.ref b71), .val (.int (0 : Int32))] [(.ref b71), (.ref b7)])) _
                refine st282.trans ?_
                show Steps p.tables e below (T282.setTop (mkF m 206 #[.val (.int p1), .val (.int p2), .val (.int p3), .val (.int p4), .val (.int p5), .val (.int p6), .val (.int (own_ps p1 p4)), .val (.int (own_pa p2 p5)), .val (.int (own_po p3 p6)), .val (.int (own_mode p6)), .val (.ref b7), .val (.ref b71), .val (.int (0 : Int32))] [(.int (own_vR_f27 (own_bs p1) (own_bs (own_ps p1 p4)) (own_bs p2) (own_bs (own_pa p2 p5)) (own_bs p3) (own_bs (own_po p3 p6))))])) _
                refine XS.iload X282.here hx rfl (hb hby at_206) rfl ?_
                exact kt
              by_cases hc11 : (own_vR_f27 (own_bs p1) (own_bs (own_ps p1 p4)) (own_bs p2) (own_bs (own_pa p2 p5)) (own_bs p3) (own_bs (own_po p3 p6))) = (0 : Int32)
              ·
                obtain ⟨cq285, kq285, q285a, q285b, q285c⟩ := isOf hZ178 e282 Q178_0
                obtain ⟨v285, _, ⟨T285, L285, k285, n285⟩, -, X285, ⟨Lc285, hQ285, l285, y285, z285⟩, st285⟩ := X282.virtualBack hx (y := (⟨"com/example/nanshe/nanshe/engine/Request", "equals", "(Ljava/lang/Object;)Z"⟩ : MethodName)) (z := (⟨"com/example/nanshe/nanshe/engine/Request", "equals", "(Ljava/lang/Object;)Z"⟩ : MethodName)) hown178 (mvT hZ178 (hw _ (List.mem_of_getElem? (i := 123) rfl))) (mvT hZ178 (hw _ (List.mem_of_getElem? (i := 124) rfl))) (notFace_of_selects (args := #[]) (mvT hZ178 (hw _ (List.mem_of_getElem? (i := 126) rfl)))) (mvT hZ178 (hw _ (List.mem_of_getElem? (i := 126) rfl))) (mvT hZ178 (hw _ (List.mem_of_getElem? (i := 125) rfl))) (by decide) (backOf (W := 0) (own_vR_rm27 l Z a0 hw [] b71 b7 x1_91 kr1_91 (own_N (own_ps p1 p4)) (own_bs (own_ps p1 p4)) x1_11 kr1_11 (own_N p1) (own_bs p1) x1_116 kr1_116 (own_N (own_pa p2 p5)) (own_bs (own_pa p2 p5)) x1_20 kr1_20 (own_N p2) (own_bs p2) x1_145 kr1_145 (own_N (own_po p3 p6)) (own_bs (own_po p3 p6)) x1_33 kr1_33 (own_N p3) (own_bs p3) r91 r11 w_COMPACT_STRINGS r116 r20 r145 r33 T178.heap n0 Z212 O179 f203 f184 f207 f188 f211 f192 (own_okN _) (own_okN _) (own_okN _) (own_okN _) (own_okN _) (own_okN _) (Ne.symm ne_b7_b71) hcs f180 Q178_1 f193 S_COMPACT_STRINGS f201 f182 f202 f183 (Ne.symm ne_r11_r91) f181 f200 Q178_2 f194 f205 f186 f206 f187 (Ne.symm ne_r20_r116) f185 f204 Q178_3 f195 f209 f190 f210 f191 (Ne.symm ne_r33_r145) f189 f208) hZ178 (hw _ (List.mem_of_getElem? (i := 127) rfl)) (hw _ (List.mem_of_getElem? (i := 2) rfl)) (by decide) (by decide)) q285a q285c (g := (mkF m 215 #[.val (.int p1), .val (.int p2), .val (.int p3), .val (.int p4), .val (.int p5), .val (.int p6), .val (.int (own_ps p1 p4)), .val (.int (own_pa p2 p5)), .val (.int (own_po p3 p6)), .val (.int (own_mode p6)), .val (.ref b7), .val (.ref b71), .val (.int (0 : Int32))] [(.ref b7), (.ref b71)])) rfl (by rw [hml]; rfl) (Steps.refl _) (argsL := [(.ref b7)]) (rest := []) (lenOf own_pd385 rfl) rfl (by show 2 * 0 + _ ≤ _; exact Nat.le_of_eq rfl) (hb hby at_215) (fun _ _ => ⟨rfl, e282, (by decide : 32 + 0 ≤ _), (by decide : 230 + 0 ≤ _)⟩)
                dsimp only [Pt.U, Pt.locs, Pt.cells, Pt.slots] at X285 l285 y285 z285 st285 hQ285
                subst l285 y285 z285
                obtain ⟨rfl, N285q, e285⟩ := hQ285
                have N286 := Fr.app N283 N285q
                have k287 : ∀ t, Steps p.tables e below (T285.setTop (mkF m 220 #[.val (.int p1), .val (.int p2), .val (.int p3), .val (.int p4), .val (.int p5), .val (.int p6), .val (.int (own_ps p1 p4)), .val (.int (own_pa p2 p5)), .val (.int (own_po p3 p6)), .val (.int (own_mode p6)), .val (.ref b7), .val (.ref b71), .val (.int (0 : Int32))] [(.int (0 : Int32)), (.int (own_vR_f27 (own_bs (own_ps p1 p4)) (own_bs p1) (own_bs (own_pa p2 p5)) (own_bs p2) (own_bs (own_po p3 p6)) (own_bs p3)))])) t → Steps p.tables e below (s₁.setTop (entryFrame m #[(.int p1), (.int p2), (.int p3), (.int p4), (.int p5), (.int p6)] maxLocals)) t := by
                  intro t kt
                  refine k284 t ?_
                  show Steps p.tables e below (T282.setTop (mkF m 208 #[.val (.int p1), .val (.int p2), .val (.int p3), .val (.int p4), .val (.int p5), .val (.int p6), .val (.int (own_ps p1 p4)), .val (.int (own_pa p2 p5)), .val (.int (own_po p3 p6)), .val (.int (own_mode p6)), .val (.ref b7), .val (.ref b71), .val (.int (0 : Int32))] [(.int (0 : Int32)), (.int (own_vR_f27 (own_bs p1) (own_bs (own_ps p1 p4)) (own_bs p2) (own_bs (own_pa p2 p5)) (own_bs p3) (own_bs (own_po p3 p6))))])) _
                  refine XS.icmpNo X282.here hx rfl (hb hby at_208) rfl (teq hc11).2 ?_
                  show Steps p.tables e below (T282.setTop (mkF m 211 #[.val (.int p1), .val (.int p2), .val (.int p3), .val (.int p4), .val (.int p5), .val (.int p6), .val (.int (own_ps p1 p4)), .val (.int (own_pa p2 p5)), .val (.int (own_po p3 p6)), .val (.int (own_mode p6)), .val (.ref b7), .val (.ref b71), .val (.int (0 : Int32))] [])) _
                  refine XS.aload X282.here hx rfl (hb hby at_211) rfl rfl ?_
                  show Steps p.tables e below (T282.setTop (mkF m 213 #[.val (.int p1), .val (.int p2), .val (.int p3), .val (.int p4), .val (.int p5), .val (.int p6), .val (.int (own_ps p1 p4)), .val (.int (own_pa p2 p5)), .val (.int (own_po p3 p6)), .val (.int (own_mode p6)), .val (.ref b7), .val (.ref b71), .val (.int (0 : Int32))] [(.ref b71)])) _
                  refine XS.aload X282.here hx rfl (hb hby at_213) rfl rfl ?_
                  show Steps p.tables e below (T282.setTop (mkF m 215 #[.val (.int p1), .val (.int p2), .val (.int p3), .val (.int p4), .val (.int p5), .val (.int p6), .val (.int (own_ps p1 p4)), .val (.int (own_pa p2 p5)), .val (.int (own_po p3 p6)), .val (.int (own_mode p6)), .val (.ref b7), .val (.ref b71), .val (.int (0 : Int32))] [(.ref b7), (.ref b71)])) _
                  refine st285.trans ?_
                  show Steps p.tables e below (T285.setTop (mkF m 218 #[.val (.int p1), .val (.int p2), .val (.int p3), .val (.int p4), .val (.int p5), .val (.int p6), .val (.int (own_ps p1 p4)), .val (.int (own_pa p2 p5)), .val (.int (own_po p3 p6)), .val (.int (own_mode p6)), .val (.ref b7), .val (.ref b71), .val (.int (0 : Int32))] [(.int (own_vR_f27 (own_bs (own_ps p1 p4)) (own_bs p1) (own_bs (own_pa p2 p5)) (own_bs p2) (own_bs (own_po p3 p6)) (own_bs p3)))])) _
                  refine XS.iload X285.here hx rfl (hb hby at_218) rfl ?_
                  exact kt
                by_cases hc12 : (own_vR_f27 (own_bs (own_ps p1 p4)) (own_bs p1) (own_bs (own_pa p2 p5)) (own_bs p2) (own_bs (own_po p3 p6)) (own_bs p3)) = (0 : Int32)
                ·
                  obtain ⟨fs, hr, hrun, hended, hE⟩ := Stand.leaveW (s := s) (vm₁ := T178.vm) X285 hS178 (by rw [e285]; exact (Nat.le_refl _)) (hlocks := hlk) (v := some (.int (1 : Int32))) (fun h => by rw [Bd.returns] at h; cases h)
                  refine ⟨_, _, k287 _ ?_, hrun, hended, _, _, rfl, ?_, hE.1, hE.2.1, hE.2.2.1, hE.2.2.2.mono (by decide) (by decide)⟩
                  · show Steps p.tables e below (T285.setTop (mkF m 220 #[.val (.int p1), .val (.int p2), .val (.int p3), .val (.int p4), .val (.int p5), .val (.int p6), .val (.int (own_ps p1 p4)), .val (.int (own_pa p2 p5)), .val (.int (own_po p3 p6)), .val (.int (own_mode p6)), .val (.ref b7), .val (.ref b71), .val (.int (0 : Int32))] [(.int (0 : Int32)), (.int (own_vR_f27 (own_bs (own_ps p1 p4)) (own_bs p1) (own_bs (own_pa p2 p5)) (own_bs p2) (own_bs (own_po p3 p6)) (own_bs p3)))])) _
                    refine XS.icmpNo X285.here hx rfl (hb hby at_220) rfl (teq hc12).2 ?_
                    show Steps p.tables e below (T285.setTop (mkF m 223 #[.val (.int p1), .val (.int p2), .val (.int p3), .val (.int p4), .val (.int p5), .val (.int p6), .val (.int (own_ps p1 p4)), .val (.int (own_pa p2 p5)), .val (.int (own_po p3 p6)), .val (.int (own_mode p6)), .val (.ref b7), .val (.ref b71), .val (.int (0 : Int32))] [])) _
                    refine XS.iconst X285.here hx rfl (hb hby at_223) ?_
                    show Steps p.tables e below (T285.setTop (mkF m 224 #[.val (.int p1), .val (.int p2), .val (.int p3), .val (.int p4), .val (.int p5), .val (.int p6), .val (.int (own_ps p1 p4)), .val (.int (own_pa p2 p5)), .val (.int (own_po p3 p6)), .val (.int (own_mode p6)), .val (.ref b7), .val (.ref b71), .val (.int (0 : Int32))] [(.int (1 : Int32))])) _
                    refine XS.goto X285.here hx rfl (pc0 := 224) (pc' := 228) rfl (hb hby at_224) (by decide) (by decide) ?_
                    show Steps p.tables e below (T285.setTop (mkF m 228 #[.val (.int p1), .val (.int p2), .val (.int p3), .val (.int p4), .val (.int p5), .val (.int p6), .val (.int (own_ps p1 p4)), .val (.int (own_pa p2 p5)), .val (.int (own_po p3 p6)), .val (.int (own_mode p6)), .val (.ref b7), .val (.ref b71), .val (.int (0 : Int32))] [(.int (1 : Int32))])) _
                    exact retN X285 hx (t := .boolean) Bd.returns (by simp) (hb hby at_228) hr
                  · show own_Q0 Z p1 p2 p3 p4 p5 p6 w_COMPACT_STRINGS w_SIOOBE_FORMATTER h0 n0 _ T285.heap _
                    rw [e285]
                    exact ⟨(by rw [own_f0, if_neg hc1, if_neg hc2, if_neg hc3, if_neg hc4, if_neg hc7, if_pos hc10, if_pos hc11, if_pos hc12]), N286⟩
                ·
                  obtain ⟨fs, hr, hrun, hended, hE⟩ := Stand.leaveW (s := s) (vm₁ := T178.vm) X285 hS178 (by rw [e285]; exact (Nat.le_refl _)) (hlocks := hlk) (v := some (.int (0 : Int32))) (fun h => by rw [Bd.returns] at h; cases h)
                  refine ⟨_, _, k287 _ ?_, hrun, hended, _, _, rfl, ?_, hE.1, hE.2.1, hE.2.2.1, hE.2.2.2.mono (by decide) (by decide)⟩
                  · show Steps p.tables e below (T285.setTop (mkF m 220 #[.val (.int p1), .val (.int p2), .val (.int p3), .val (.int p4), .val (.int p5), .val (.int p6), .val (.int (own_ps p1 p4)), .val (.int (own_pa p2 p5)), .val (.int (own_po p3 p6)), .val (.int (own_mode p6)), .val (.ref b7), .val (.ref b71), .val (.int (0 : Int32))] [(.int (0 : Int32)), (.int (own_vR_f27 (own_bs (own_ps p1 p4)) (own_bs p1) (own_bs (own_pa p2 p5)) (own_bs p2) (own_bs (own_po p3 p6)) (own_bs p3)))])) _
                    refine XS.icmpYes X285.here hx rfl (pc0 := 220) (pc' := 227) rfl (hb hby at_220) rfl (feq hc12).2 (by decide) (by decide) ?_
                    show Steps p.tables e below (T285.setTop (mkF m 227 #[.val (.int p1), .val (.int p2), .val (.int p3), .val (.int p4), .val (.int p5), .val (.int p6), .val (.int (own_ps p1 p4)), .val (.int (own_pa p2 p5)), .val (.int (own_po p3 p6)), .val (.int (own_mode p6)), .val (.ref b7), .val (.ref b71), .val (.int (0 : Int32))] [])) _
                    refine XS.iconst X285.here hx rfl (hb hby at_227) ?_
                    show Steps p.tables e below (T285.setTop (mkF m 228 #[.val (.int p1), .val (.int p2), .val (.int p3), .val (.int p4), .val (.int p5), .val (.int p6), .val (.int (own_ps p1 p4)), .val (.int (own_pa p2 p5)), .val (.int (own_po p3 p6)), .val (.int (own_mode p6)), .val (.ref b7), .val (.ref b71), .val (.int (0 : Int32))] [(.int (0 : Int32))])) _
                    exact retN X285 hx (t := .boolean) Bd.returns (by simp) (hb hby at_228) hr
                  · show own_Q0 Z p1 p2 p3 p4 p5 p6 w_COMPACT_STRINGS w_SIOOBE_FORMATTER h0 n0 _ T285.heap _
                    rw [e285]
                    exact ⟨(by rw [own_f0, if_neg hc1, if_neg hc2, if_neg hc3, if_neg hc4, if_neg hc7, if_pos hc10, if_pos hc11, if_neg hc12]), N286⟩
              ·
                obtain ⟨fs, hr, hrun, hended, hE⟩ := Stand.leaveW (s := s) (vm₁ := T178.vm) X282 hS178 (by rw [e282]; exact (Nat.le_refl _)) (hlocks := hlk) (v := some (.int (0 : Int32))) (fun h => by rw [Bd.returns] at h; cases h)
                refine ⟨_, _, k284 _ ?_, hrun, hended, _, _, rfl, ?_, hE.1, hE.2.1, hE.2.2.1, hE.2.2.2.mono (by decide) (by decide)⟩
                · show Steps p.tables e below (T282.setTop (mkF m 208 #[.val (.int p1), .val (.int p2), .val (.int p3), .val (.int p4), .val (.int p5), .val (.int p6), .val (.int (own_ps p1 p4)), .val (.int (own_pa p2 p5)), .val (.int (own_po p3 p6)), .val (.int (own_mode p6)), .val (.ref b7), .val (.ref b71), .val (.int (0 : Int32))] [(.int (0 : Int32)), (.int (own_vR_f27 (own_bs p1) (own_bs (own_ps p1 p4)) (own_bs p2) (own_bs (own_pa p2 p5)) (own_bs p3) (own_bs (own_po p3 p6))))])) _
                  refine XS.icmpYes X282.here hx rfl (pc0 := 208) (pc' := 227) rfl (hb hby at_208) rfl (feq hc11).2 (by decide) (by decide) ?_
                  show Steps p.tables e below (T282.setTop (mkF m 227 #[.val (.int p1), .val (.int p2), .val (.int p3), .val (.int p4), .val (.int p5), .val (.int p6), .val (.int (own_ps p1 p4)), .val (.int (own_pa p2 p5)), .val (.int (own_po p3 p6)), .val (.int (own_mode p6)), .val (.ref b7), .val (.ref b71), .val (.int (0 : Int32))] [])) _
                  refine XS.iconst X282.here hx rfl (hb hby at_227) ?_
                  show Steps p.tables e below (T282.setTop (mkF m 228 #[.val (.int p1), .val (.int p2), .val (.int p3), .val (.int p4), .val (.int p5), .val (.int p6), .val (.int (own_ps p1 p4)), .val (.int (own_pa p2 p5)), .val (.int (own_po p3 p6)), .val (.int (own_mode p6)), .val (.ref b7), .val (.ref b71), .val (.int (0 : Int32))] [(.int (0 : Int32))])) _
                  exact retN X282 hx (t := .boolean) Bd.returns (by simp) (hb hby at_228) hr
                · show own_Q0 Z p1 p2 p3 p4 p5 p6 w_COMPACT_STRINGS w_SIOOBE_FORMATTER h0 n0 _ T282.heap _
                  rw [e282]
                  exact ⟨(by rw [own_f0, if_neg hc1, if_neg hc2, if_neg hc3, if_neg hc4, if_neg hc7, if_pos hc10, if_neg hc11]), N283⟩
            ·
              obtain ⟨cq288, kq288, q288a, q288b, q288c⟩ := isOf hZ178 e279 f180
              obtain ⟨v288, _, ⟨T288, L288, k288, n288⟩, -, X288, ⟨Lc288, hQ288, l288, y288, z288⟩, st288⟩ := X279.virtualBack hx (y := (⟨"com/example/nanshe/nanshe/engine/Request", "equals", "(Ljava/lang/Object;)Z"⟩ : MethodName)) (z := (⟨"com/example/nanshe/nanshe/engine/Request", "equals", "(Ljava/lang/Object;)Z"⟩ : MethodName)) hown178 (mvT hZ178 (hw _ (List.mem_of_getElem? (i := 123) rfl))) (mvT hZ178 (hw _ (List.mem_of_getElem? (i := 124) rfl))) (notFace_of_selects (args := #[]) (mvT hZ178 (hw _ (List.mem_of_getElem? (i := 126) rfl)))) (mvT hZ178 (hw _ (List.mem_of_getElem? (i := 126) rfl))) (mvT hZ178 (hw _ (List.mem_of_getElem? (i := 125) rfl))) (by decide) (backOf (W := 0) (own_vR_rm27 l Z a0 hw [] b7 b71 x1_11 kr1_11 (own_N p1) (own_bs p1) x1_91 kr1_91 (own_N (own_ps p1 p4)) (own_bs (own_ps p1 p4)) x1_20 kr1_20 (own_N p2) (own_bs p2) x1_116 kr1_116 (own_N (own_pa p2 p5)) (own_bs (own_pa p2 p5)) x1_33 kr1_33 (own_N p3) (own_bs p3) x1_145 kr1_145 (own_N (own_po p3 p6)) (own_bs (own_po p3 p6)) r11 r91 w_COMPACT_STRINGS r20 r116 r33 r145 T178.heap n0 Z212 O179 f184 f203 f188 f207 f192 f211 (own_okN _) (own_okN _) (own_okN _) (own_okN _) (own_okN _) (own_okN _) ne_b7_b71 hcs Q178_0 f193 Q178_1 S_COMPACT_STRINGS f182 f201 f183 f202 ne_r11_r91 f200 f181 f194 Q178_2 f186 f205 f187 f206 ne_r20_r116 f204 f185 f195 Q178_3 f190 f209 f191 f210 ne_r33_r145 f208 f189) hZ178 (hw _ (List.mem_of_getElem? (i := 127) rfl)) (hw _ (List.mem_of_getElem? (i := 2) rfl)) (by decide) (by decide)) q288a q288c (g := (mkF m 203 #[.val (.int p1), .val (.int p2), .val (.int p3), .val (.int p4), .val (.int p5), .val (.int p6), .val (.int (own_ps p1 p4)), .val (.int (own_pa p2 p5)), .val (.int (own_po p3 p6)), .val (.int (own_mode p6)), .val (.ref b7), .val (.ref b71), .val (.int (1 : Int32))] [(.ref b71), (.ref b7)])) rfl (by rw [hml]; rfl) (Steps.refl _) (argsL := [(.ref b71)]) (rest := []) (lenOf own_pd385 rfl) rfl (by show 2 * 0 + _ ≤ _; exact Nat.le_of_eq rfl) (hb hby at_203) (fun _ _ => ⟨rfl, e279, (by decide : 32 + 0 ≤ _), (by decide : 230 + 0 ≤ _)⟩)
              dsimp only [Pt.U, Pt.locs, Pt.cells, Pt.slots] at X288 l288 y288 z288 st288 hQ288
              subst l288 y288 z288
              obtain ⟨rfl, N288q, e288⟩ := hQ288
              have N289 := Fr.app N280 N288q
              have k290 : ∀ t, Steps p.tables e below (T288.setTop (mkF m 208 #[.val (.int p1), .val (.int p2), .val (.int p3), .val (.int p4), .val (.int p5), .val (.int p6), .val (.int (own_ps p1 p4)), .val (.int (own_pa p2 p5)), .val (.int (own_po p3 p6)), .val (.int (own_mode p6)), .val (.ref b7), .val (.ref b71), .val (.int (1 : Int32))] [(.int (1 : Int32)), (.int (own_vR_f27 (own_bs p1) (own_bs (own_ps p1 p4)) (own_bs p2) (own_bs (own_pa p2 p5)) (own_bs p3) (own_bs (own_po p3 p6))))])) t → Steps p.tables e below (s₁.setTop (entryFrame m #[(.int p1), (.int p2), (.int p3), (.int p4), (.int p5), (.int p6)] maxLocals)) t := by
                intro t kt
                refine k281 t ?_
                show Steps p.tables e below (T279.setTop (mkF m 189 #[.val (.int p1), .val (.int p2), .val (.int p3), .val (.int p4), .val (.int p5), .val (.int p6), .val (.int (own_ps p1 p4)), .val (.int (own_pa p2 p5)), .val (.int (own_po p3 p6)), .val (.int (own_mode p6)), .val (.ref b7), .val (.ref b71), .unset] [(.int (own_f26 p3 (own_po p3 p6)))])) _
                refine XS.ifNo X279.here hx rfl (hb hby at_189) rfl ((if0 _ _).trans (feq hc10).1) ?_
                show Steps p.tables e below (T279.setTop (mkF m 192 #[.val (.int p1), .val (.int p2), .val (.int p3), .val (.int p4), .val (.int p5), .val (.int p6), .val (.int (own_ps p1 p4)), .val (.int (own_pa p2 p5)), .val (.int (own_po p3 p6)), .val (.int (own_mode p6)), .val (.ref b7), .val (.ref b71), .unset] [])) _
                refine XS.iconst X279.here hx rfl (hb hby at_192) ?_
                show Steps p.tables e below (T279.setTop (mkF m 193 #[.val (.int p1), .val (.int p2), .val (.int p3), .val (.int p4), .val (.int p5), .val (.int p6), .val (.int (own_ps p1 p4)), .val (.int (own_pa p2 p5)), .val (.int (own_po p3 p6)), .val (.int (own_mode p6)), .val (.ref b7), .val (.ref b71), .unset] [(.int (1 : Int32))])) _
                refine XS.goto X279.here hx rfl (pc0 := 193) (pc' := 197) rfl (hb hby at_193) (by decide) (by decide) ?_
                show Steps p.tables e below (T279.setTop (mkF m 197 #[.val (.int p1), .val (.int p2), .val (.int p3), .val (.int p4), .val (.int p5), .val (.int p6), .val (.int (own_ps p1 p4)), .val (.int (own_pa p2 p5)), .val (.int (own_po p3 p6)), .val (.int (own_mode p6)), .val (.ref b7), .val (.ref b71), .unset] [(.int (1 : Int32))])) _
                refine XS.istore X279.here hx rfl (hb hby at_197) rfl (l' := #[.val (.int p1), .val (.int p2), .val (.int p3), .val (.int p4), .val (.int p5), .val (.int p6), .val (.int (own_ps p1 p4)), .val (.int (own_pa p2 p5)), .val (.int (own_po p3 p6)), .val (.int (own_mode p6)), .val (.ref b7), .val (.ref b71), .val (.int (1 : Int32))]) rfl ?_
                show Steps p.tables e below (T279.setTop (mkF m 199 #[.val (.int p1), .val (.int p2), .val (.int p3), .val (.int p4), .val (.int p5), .val (.int p6), .val (.int (own_ps p1 p4)), .val (.int (own_pa p2 p5)), .val (.int (own_po p3 p6)), .val (.int (own_mode p6)), .val (.ref b7), .val (.ref b71), .val (.int (1 : Int32))] [])) _
                refine XS.aload X279.here hx rfl (hb hby at_199) rfl rfl ?_
                show Steps p.tables e below (T279.setTop (mkF m 201 #[.val (.int p1), .val (.int p2), .val (.int p3), .val (.int p4), .val (.int p5), .val (.int p6), .val (.int (own_ps p1 p4)), .val (.int (own_pa p2 p5)), .val (.int (own_po p3 p6)), .val (.int (own_mode p6)), .val (.ref b7), .val (.ref b71), .val (.int (1 : Int32))] [(.ref b7)])) _
                refine XS.aload X279.here hx rfl (hb hby at_201) rfl rfl ?_
                show Steps p.tables e below (T279.setTop (mkF m 203 #[.val (.int p1), .val (.int p2), .val (.int p3), .val (.int p4), .val (.int p5), .val (.int p6), .val (.int (own_ps p1 p4)), .val (.int (own_pa p2 p5)), .val (.int (own_po p3 p6)), .val (.int (own_mode p6)), .val (.ref b7), .val (.ref b71), .val (.int (1 : Int32))] [(.ref b71), (.ref b7)])) _
                refine st288.trans ?_
                show Steps p.tables e below (T288.setTop (mkF m 206 #[.val (.int p1), .val (.int p2), .val (.int p3), .val (.int p4), .val (.int p5), .val (.int p6), .val (.int (own_ps p1 p4)), .val (.int (own_pa p2 p5)), .val (.int (own_po p3 p6)), .val (.int (own_mode p6)), .val (.ref b7), .val (.ref b71), .val (.int (1 : Int32))] [(.int (own_vR_f27 (own_bs p1) (own_bs (own_ps p1 p4)) (own_bs p2) (own_bs (own_pa p2 p5)) (own_bs p3) (own_bs (own_po p3 p6))))])) _
                refine XS.iload X288.here hx rfl (hb hby at_206) rfl ?_
                exact kt
              by_cases hc13 : (own_vR_f27 (own_bs p1) (own_bs (own_ps p1 p4)) (own_bs p2) (own_bs (own_pa p2 p5)) (own_bs p3) (own_bs (own_po p3 p6))) = (1 : Int32)
              ·
                obtain ⟨cq291, kq291, q291a, q291b, q291c⟩ := isOf hZ178 e288 Q178_0
                obtain ⟨v291, _, ⟨T291, L291, k291, n291⟩, -, X291, ⟨Lc291, hQ291, l291, y291, z291⟩, st291⟩ := X288.virtualBack hx (y := (⟨"com/example/nanshe/nanshe/engine/Request", "equals", "(Ljava/lang/Object;)Z"⟩ : MethodName)) (z := (⟨"com/example/nanshe/nanshe/engine/Request", "equals", "(Ljava/lang/Object;)Z"⟩ : MethodName)) hown178 (mvT hZ178 (hw _ (List.mem_of_getElem? (i := 123) rfl))) (mvT hZ178 (hw _ (List.mem_of_getElem? (i := 124) rfl))) (notFace_of_selects (args := #[]) (mvT hZ178 (hw _ (List.mem_of_getElem? (i := 126) rfl)))) (mvT hZ178 (hw _ (List.mem_of_getElem? (i := 126) rfl))) (mvT hZ178 (hw _ (List.mem_of_getElem? (i := 125) rfl))) (by decide) (backOf (W := 0) (own_vR_rm27 l Z a0 hw [] b71 b7 x1_91 kr1_91 (own_N (own_ps p1 p4)) (own_bs (own_ps p1 p4)) x1_11 kr1_11 (own_N p1) (own_bs p1) x1_116 kr1_116 (own_N (own_pa p2 p5)) (own_bs (own_pa p2 p5)) x1_20 kr1_20 (own_N p2) (own_bs p2) x1_145 kr1_145 (own_N (own_po p3 p6)) (own_bs (own_po p3 p6)) x1_33 kr1_33 (own_N p3) (own_bs p3) r91 r11 w_COMPACT_STRINGS r116 r20 r145 r33 T178.heap n0 Z212 O179 f203 f184 f207 f188 f211 f192 (own_okN _) (own_okN _) (own_okN _) (own_okN _) (own_okN _) (own_okN _) (Ne.symm ne_b7_b71) hcs f180 Q178_1 f193 S_COMPACT_STRINGS f201 f182 f202 f183 (Ne.symm ne_r11_r91) f181 f200 Q178_2 f194 f205 f186 f206 f187 (Ne.symm ne_r20_r116) f185 f204 Q178_3 f195 f209 f190 f210 f191 (Ne.symm ne_r33_r145) f189 f208) hZ178 (hw _ (List.mem_of_getElem? (i := 127) rfl)) (hw _ (List.mem_of_getElem? (i := 2) rfl)) (by decide) (by decide)) q291a q291c (g := (mkF m 215 #[.val (.int p1), .val (.int p2), .val (.int p3), .val (.int p4), .val (.int p5), .val (.int p6), .val (.int (own_ps p1 p4)), .val (.int (own_pa p2 p5)), .val (.int (own_po p3 p6)), .val (.int (own_mode p6)), .val (.ref b7), .val (.ref b71), .val (.int (1 : Int32))] [(.ref b7), (.ref b71)])) rfl (by rw [hml]; rfl) (Steps.refl _) (argsL := [(.ref b7)]) (rest := []) (lenOf own_pd385 rfl) rfl (by show 2 * 0 + _ ≤ _; exact Nat.le_of_eq rfl) (hb hby at_215) (fun _ _ => ⟨rfl, e288, (by decide : 32 + 0 ≤ _), (by decide : 230 + 0 ≤ _)⟩)
                dsimp only [Pt.U, Pt.locs, Pt.cells, Pt.slots] at X291 l291 y291 z291 st291 hQ291
                subst l291 y291 z291
                obtain ⟨rfl, N291q, e291⟩ := hQ291
                have N292 := Fr.app N289 N291q
                have k293 : ∀ t, Steps p.tables e below (T291.setTop (mkF m 220 #[.val (.int p1), .val (.int p2), .val (.int p3), .val (.int p4), .val (.int p5), .val (.int p6), .val (.int (own_ps p1 p4)), .val (.int (own_pa p2 p5)), .val (.int (own_po p3 p6)), .val (.int (own_mode p6)), .val (.ref b7), .val (.ref b71), .val (.int (1 : Int32))] [(.int (1 : Int32)), (.int (own_vR_f27 (own_bs (own_ps p1 p4)) (own_bs p1) (own_bs (own_pa p2 p5)) (own_bs p2) (own_bs (own_po p3 p6)) (own_bs p3)))])) t → Steps p.tables e below (s₁.setTop (entryFrame m #[(.int p1), (.int p2), (.int p3), (.int p4), (.int p5), (.int p6)] maxLocals)) t := by
                  intro t kt
                  refine k290 t ?_
                  show Steps p.tables e below (T288.setTop (mkF m 208 #[.val (.int p1), .val (.int p2), .val (.int p3), .val (.int p4), .val (.int p5), .val (.int p6), .val (.int (own_ps p1 p4)), .val (.int (own_pa p2 p5)), .val (.int (own_po p3 p6)), .val (.int (own_mode p6)), .val (.ref b7), .val (.ref b71), .val (.int (1 : Int32))] [(.int (1 : Int32)), (.int (own_vR_f27 (own_bs p1) (own_bs (own_ps p1 p4)) (own_bs p2) (own_bs (own_pa p2 p5)) (own_bs p3) (own_bs (own_po p3 p6))))])) _
                  refine XS.icmpNo X288.here hx rfl (hb hby at_208) rfl (teq hc13).2 ?_
                  show Steps p.tables e below (T288.setTop (mkF m 211 #[.val (.int p1), .val (.int p2), .val (.int p3), .val (.int p4), .val (.int p5), .val (.int p6), .val (.int (own_ps p1 p4)), .val (.int (own_pa p2 p5)), .val (.int (own_po p3 p6)), .val (.int (own_mode p6)), .val (.ref b7), .val (.ref b71), .val (.int (1 : Int32))] [])) _
                  refine XS.aload X288.here hx rfl (hb hby at_211) rfl rfl ?_
                  show Steps p.tables e below (T288.setTop (mkF m 213 #[.val (.int p1), .val (.int p2), .val (.int p3), .val (.int p4), .val (.int p5), .val (.int p6), .val (.int (own_ps p1 p4)), .val (.int (own_pa p2 p5)), .val (.int (own_po p3 p6)), .val (.int (own_mode p6)), .val (.ref b7), .val (.ref b71), .val (.int (1 : Int32))] [(.ref b71)])) _
                  refine XS.aload X288.here hx rfl (hb hby at_213) rfl rfl ?_
                  show Steps p.tables e below (T288.setTop (mkF m 215 #[.val (.int p1), .val (.int p2), .val (.int p3), .val (.int p4), .val (.int p5), .val (.int p6), .val (.int (own_ps p1 p4)), .val (.int (own_pa p2 p5)), .val (.int (own_po p3 p6)), .val (.int (own_mode p6)), .val (.ref b7), .val (.ref b71), .val (.int (1 : Int32))] [(.ref b7), (.ref b71)])) _
                  refine st291.trans ?_
                  show Steps p.tables e below (T291.setTop (mkF m 218 #[.val (.int p1), .val (.int p2), .val (.int p3), .val (.int p4), .val (.int p5), .val (.int p6), .val (.int (own_ps p1 p4)), .val (.int (own_pa p2 p5)), .val (.int (own_po p3 p6)), .val (.int (own_mode p6)), .val (.ref b7), .val (.ref b71), .val (.int (1 : Int32))] [(.int (own_vR_f27 (own_bs (own_ps p1 p4)) (own_bs p1) (own_bs (own_pa p2 p5)) (own_bs p2) (own_bs (own_po p3 p6)) (own_bs p3)))])) _
                  refine XS.iload X291.here hx rfl (hb hby at_218) rfl ?_
                  exact kt
                by_cases hc14 : (own_vR_f27 (own_bs (own_ps p1 p4)) (own_bs p1) (own_bs (own_pa p2 p5)) (own_bs p2) (own_bs (own_po p3 p6)) (own_bs p3)) = (1 : Int32)
                ·
                  obtain ⟨fs, hr, hrun, hended, hE⟩ := Stand.leaveW (s := s) (vm₁ := T178.vm) X291 hS178 (by rw [e291]; exact (Nat.le_refl _)) (hlocks := hlk) (v := some (.int (1 : Int32))) (fun h => by rw [Bd.returns] at h; cases h)
                  refine ⟨_, _, k293 _ ?_, hrun, hended, _, _, rfl, ?_, hE.1, hE.2.1, hE.2.2.1, hE.2.2.2.mono (by decide) (by decide)⟩
                  · show Steps p.tables e below (T291.setTop (mkF m 220 #[.val (.int p1), .val (.int p2), .val (.int p3), .val (.int p4), .val (.int p5), .val (.int p6), .val (.int (own_ps p1 p4)), .val (.int (own_pa p2 p5)), .val (.int (own_po p3 p6)), .val (.int (own_mode p6)), .val (.ref b7), .val (.ref b71), .val (.int (1 : Int32))] [(.int (1 : Int32)), (.int (own_vR_f27 (own_bs (own_ps p1 p4)) (own_bs p1) (own_bs (own_pa p2 p5)) (own_bs p2) (own_bs (own_po p3 p6)) (own_bs p3)))])) _
                    refine XS.icmpNo X291.here hx rfl (hb hby at_220) rfl (teq hc14).2 ?_
                    show Steps p.tables e below (T291.setTop (mkF m 223 #[.val (.int p1), .val (.int p2), .val (.int p3), .val (.int p4), .val (.int p5), .val (.int p6), .val (.int (own_ps p1 p4)), .val (.int (own_pa p2 p5)), .val (.int (own_po p3 p6)), .val (.int (own_mode p6)), .val (.ref b7), .val (.ref b71), .val (.int (1 : Int32))] [])) _
                    refine XS.iconst X291.here hx rfl (hb hby at_223) ?_
                    show Steps p.tables e below (T291.setTop (mkF m 224 #[.val (.int p1), .val (.int p2), .val (.int p3), .val (.int p4), .val (.int p5), .val (.int p6), .val (.int (own_ps p1 p4)), .val (.int (own_pa p2 p5)), .val (.int (own_po p3 p6)), .val (.int (own_mode p6)), .val (.ref b7), .val (.ref b71), .val (.int (1 : Int32))] [(.int (1 : Int32))])) _
                    refine XS.goto X291.here hx rfl (pc0 := 224) (pc' := 228) rfl (hb hby at_224) (by decide) (by decide) ?_
                    show Steps p.tables e below (T291.setTop (mkF m 228 #[.val (.int p1), .val (.int p2), .val (.int p3), .val (.int p4), .val (.int p5), .val (.int p6), .val (.int (own_ps p1 p4)), .val (.int (own_pa p2 p5)), .val (.int (own_po p3 p6)), .val (.int (own_mode p6)), .val (.ref b7), .val (.ref b71), .val (.int (1 : Int32))] [(.int (1 : Int32))])) _
                    exact retN X291 hx (t := .boolean) Bd.returns (by simp) (hb hby at_228) hr
                  · show own_Q0 Z p1 p2 p3 p4 p5 p6 w_COMPACT_STRINGS w_SIOOBE_FORMATTER h0 n0 _ T291.heap _
                    rw [e291]
                    exact ⟨(by rw [own_f0, if_neg hc1, if_neg hc2, if_neg hc3, if_neg hc4, if_neg hc7, if_neg hc10, if_pos hc13, if_pos hc14]), N292⟩
                ·
                  obtain ⟨fs, hr, hrun, hended, hE⟩ := Stand.leaveW (s := s) (vm₁ := T178.vm) X291 hS178 (by rw [e291]; exact (Nat.le_refl _)) (hlocks := hlk) (v := some (.int (0 : Int32))) (fun h => by rw [Bd.returns] at h; cases h)
                  refine ⟨_, _, k293 _ ?_, hrun, hended, _, _, rfl, ?_, hE.1, hE.2.1, hE.2.2.1, hE.2.2.2.mono (by decide) (by decide)⟩
                  · show Steps p.tables e below (T291.setTop (mkF m 220 #[.val (.int p1), .val (.int p2), .val (.int p3), .val (.int p4), .val (.int p5), .val (.int p6), .val (.int (own_ps p1 p4)), .val (.int (own_pa p2 p5)), .val (.int (own_po p3 p6)), .val (.int (own_mode p6)), .val (.ref b7), .val (.ref b71), .val (.int (1 : Int32))] [(.int (1 : Int32)), (.int (own_vR_f27 (own_bs (own_ps p1 p4)) (own_bs p1) (own_bs (own_pa p2 p5)) (own_bs p2) (own_bs (own_po p3 p6)) (own_bs p3)))])) _
                    refine XS.icmpYes X291.here hx rfl (pc0 := 220) (pc' := 227) rfl (hb hby at_220) rfl (feq hc14).2 (by decide) (by decide) ?_
                    show Steps p.tables e below (T291.setTop (mkF m 227 #[.val (.int p1), .val (.int p2), .val (.int p3), .val (.int p4), .val (.int p5), .val (.int p6), .val (.int (own_ps p1 p4)), .val (.int (own_pa p2 p5)), .val (.int (own_po p3 p6)), .val (.int (own_mode p6)), .val (.ref b7), .val (.ref b71), .val (.int (1 : Int32))] [])) _
                    refine XS.iconst X291.here hx rfl (hb hby at_227) ?_
                    show Steps p.tables e below (T291.setTop (mkF m 228 #[.val (.int p1), .val (.int p2), .val (.int p3), .val (.int p4), .val (.int p5), .val (.int p6), .val (.int (own_ps p1 p4)), .val (.int (own_pa p2 p5)), .val (.int (own_po p3 p6)), .val (.int (own_mode p6)), .val (.ref b7), .val (.ref b71), .val (.int (1 : Int32))] [(.int (0 : Int32))])) _
                    exact retN X291 hx (t := .boolean) Bd.returns (by simp) (hb hby at_228) hr
                  · show own_Q0 Z p1 p2 p3 p4 p5 p6 w_COMPACT_STRINGS w_SIOOBE_FORMATTER h0 n0 _ T291.heap _
                    rw [e291]
                    exact ⟨(by rw [own_f0, if_neg hc1, if_neg hc2, if_neg hc3, if_neg hc4, if_neg hc7, if_neg hc10, if_pos hc13, if_neg hc14]), N292⟩
              ·
                obtain ⟨fs, hr, hrun, hended, hE⟩ := Stand.leaveW (s := s) (vm₁ := T178.vm) X288 hS178 (by rw [e288]; exact (Nat.le_refl _)) (hlocks := hlk) (v := some (.int (0 : Int32))) (fun h => by rw [Bd.returns] at h; cases h)
                refine ⟨_, _, k290 _ ?_, hrun, hended, _, _, rfl, ?_, hE.1, hE.2.1, hE.2.2.1, hE.2.2.2.mono (by decide) (by decide)⟩
                · show Steps p.tables e below (T288.setTop (mkF m 208 #[.val (.int p1), .val (.int p2), .val (.int p3), .val (.int p4), .val (.int p5), .val (.int p6), .val (.int (own_ps p1 p4)), .val (.int (own_pa p2 p5)), .val (.int (own_po p3 p6)), .val (.int (own_mode p6)), .val (.ref b7), .val (.ref b71), .val (.int (1 : Int32))] [(.int (1 : Int32)), (.int (own_vR_f27 (own_bs p1) (own_bs (own_ps p1 p4)) (own_bs p2) (own_bs (own_pa p2 p5)) (own_bs p3) (own_bs (own_po p3 p6))))])) _
                  refine XS.icmpYes X288.here hx rfl (pc0 := 208) (pc' := 227) rfl (hb hby at_208) rfl (feq hc13).2 (by decide) (by decide) ?_
                  show Steps p.tables e below (T288.setTop (mkF m 227 #[.val (.int p1), .val (.int p2), .val (.int p3), .val (.int p4), .val (.int p5), .val (.int p6), .val (.int (own_ps p1 p4)), .val (.int (own_pa p2 p5)), .val (.int (own_po p3 p6)), .val (.int (own_mode p6)), .val (.ref b7), .val (.ref b71), .val (.int (1 : Int32))] [])) _
                  refine XS.iconst X288.here hx rfl (hb hby at_227) ?_
                  show Steps p.tables e below (T288.setTop (mkF m 228 #[.val (.int p1), .val (.int p2), .val (.int p3), .val (.int p4), .val (.int p5), .val (.int p6), .val (.int (own_ps p1 p4)), .val (.int (own_pa p2 p5)), .val (.int (own_po p3 p6)), .val (.int (own_mode p6)), .val (.ref b7), .val (.ref b71), .val (.int (1 : Int32))] [(.int (0 : Int32))])) _
                  exact retN X288 hx (t := .boolean) Bd.returns (by simp) (hb hby at_228) hr
                · show own_Q0 Z p1 p2 p3 p4 p5 p6 w_COMPACT_STRINGS w_SIOOBE_FORMATTER h0 n0 _ T288.heap _
                  rw [e288]
                  exact ⟨(by rw [own_f0, if_neg hc1, if_neg hc2, if_neg hc3, if_neg hc4, if_neg hc7, if_neg hc10, if_neg hc13]), N289⟩
theorem own_bca : ∀ k : Fin 256, own_vA0_f18 (nar .byte ((nar .char (own_g (Int32.ofNat k.val))).toInt8.toInt32)) = own_g (Int32.ofNat k.val) := by decide +kernel
theorem own_bc (p : Int32) : own_vA0_f18 (own_bt p) = own_f3 p := by
  obtain ⟨k, h⟩ := own_f3g p
  unfold own_bt
  rw [h]; exact own_bca k
theorem own_bti (p q : Int32) : own_bt p = own_bt q ↔ own_f3 p = own_f3 q := by
  constructor
  · intro h
    rw [← own_bc p, ← own_bc q, h]
  · intro h
    unfold own_bt; rw [h]
def own_R (p q : Int32) : Prop := own_f2 p = own_f2 q ∧ own_f3 p = own_f3 q ∧ (own_f2 p = 2 → own_f3 (p.toUInt32 >>> ((8 : Int32) &&& 31).toUInt32).toInt32 = own_f3 (q.toUInt32 >>> ((8 : Int32) &&& 31).toUInt32).toInt32)
instance own_dR (p q : Int32) : Decidable (own_R p q) := by unfold own_R; infer_instance
theorem own_Rs (p q : Int32) : own_R p q ↔ own_R q p := by
  constructor
  · intro h; exact ⟨h.1.symm, h.2.1.symm, fun g => (h.2.2 (h.1.trans g)).symm⟩
  · intro h; exact ⟨h.1.symm, h.2.1.symm, fun g => (h.2.2 (h.1.trans g)).symm⟩
theorem own_12 : ¬ (1 : Int32) = 2 := by decide
theorem own_21 : ¬ (2 : Int32) = 1 := by decide
theorem own_10 : ¬ (1 : Int32) = 0 := by decide
theorem own_sm (p q : Int32) : own_f26 p q = if own_R p q then 1 else 0 := by
  unfold own_f26
  by_cases a : own_f2 p = own_f2 q
  · by_cases b : own_f3 p = own_f3 q
    · by_cases c : own_f2 p = 2
      · by_cases d : own_f3 (p.toUInt32 >>> ((8 : Int32) &&& 31).toUInt32).toInt32 = own_f3 (q.toUInt32 >>> ((8 : Int32) &&& 31).toUInt32).toInt32
        · rw [if_pos a, if_pos b, if_pos c, if_pos d, if_pos ⟨a, b, fun _ => d⟩]
        · rw [if_pos a, if_pos b, if_pos c, if_neg d, if_neg (fun h => d (h.2.2 c))]
      · rw [if_pos a, if_pos b, if_neg c, if_pos ⟨a, b, fun h => absurd h c⟩]
    · rw [if_pos a, if_neg b, if_neg (fun h => b h.2.1)]
  · rw [if_neg a, if_neg (fun h => a h.1)]
theorem own_eqv (p q : Int32) : own_eqS (own_bs p) (own_bs q) = if own_R p q then 1 else 0 := by
  rcases own_f2c p with a | a <;> rcases own_f2c q with b | b
  · rw [own_bst a, own_bst b]
    show own_vAA_f28 _ _ = _
    unfold own_vAA_f28 own_vAA_f29
    by_cases c : own_bt p = own_bt q
    · rw [if_pos c, if_neg own_10, if_pos ⟨a.trans b.symm, (own_bti p q).mp c, fun h => absurd (a.symm.trans h) own_12⟩]
    · rw [if_neg c, if_pos rfl, if_neg (fun h => c ((own_bti p q).mpr h.2.1))]
  · rw [own_bst a, own_bsf (fun h => own_12 (h.symm.trans b)), if_neg (fun h => own_12 (a.symm.trans (h.1.trans b)))]
    rfl
  · rw [own_bsf (fun h => own_12 (h.symm.trans a)), own_bst b, if_neg (fun h => own_21 (a.symm.trans (h.1.trans b)))]
    rfl
  · rw [own_bsf (fun h => own_12 (h.symm.trans a)), own_bsf (fun h => own_12 (h.symm.trans b))]
    show own_vBB_f28 _ _ _ _ = _
    unfold own_vBB_f28 own_vBB_f29
    by_cases c : own_bt p = own_bt q
    · by_cases d : own_bt (p.toUInt32 >>> ((8 : Int32) &&& 31).toUInt32).toInt32 = own_bt (q.toUInt32 >>> ((8 : Int32) &&& 31).toUInt32).toInt32
      · rw [if_pos c, if_pos d, if_neg own_10, if_pos ⟨a.trans b.symm, (own_bti _ _).mp c, fun _ => (own_bti _ _).mp d⟩]
      · rw [if_pos c, if_neg d, if_pos rfl, if_neg (fun h => d ((own_bti _ _).mpr (h.2.2 a)))]
    · rw [if_neg c, if_pos rfl, if_neg (fun h => c ((own_bti _ _).mpr h.2.1))]
theorem own_z (P : Prop) [Decidable P] : ((if P then (1 : Int32) else 0) = 0) ↔ ¬ P := by
  by_cases h : P
  · rw [if_pos h]; exact ⟨fun q => absurd q own_10, fun q => absurd h q⟩
  · rw [if_neg h]; exact ⟨fun _ => h, fun _ => rfl⟩
theorem own_law (p1 p2 p3 p4 p5 p6 : Int32) : own_f0 p1 p2 p3 p4 p5 p6 = 1 := by
  have hv : ∀ s t a b o q : Int32, own_vR_f27 (own_bs s) (own_bs t) (own_bs a) (own_bs b) (own_bs o) (own_bs q) = if own_R s t ∧ own_R a b ∧ own_R o q then 1 else 0 := by
    intro s t a b o q
    unfold own_vR_f27
    simp only [own_eqv, own_z]
    by_cases h1 : own_R s t
    · by_cases h2 : own_R a b
      · by_cases h3 : own_R o q
        · rw [if_neg (fun h => h h1), if_neg (fun h => h h2), if_neg (fun h => h h3), if_pos ⟨h1, h2, h3⟩]
        · rw [if_neg (fun h => h h1), if_neg (fun h => h h2), if_pos h3, if_neg (fun h => h3 h.2.2)]
      · rw [if_neg (fun h => h h1), if_pos h2, if_neg (fun h => h2 h.2.1)]
    · rw [if_pos h1, if_neg (fun h => h1 h.1)]
  unfold own_f0
  rw [hv, hv, own_sm, own_sm, own_sm]
  generalize own_ps p1 p4 = s
  generalize own_pa p2 p5 = a
  generalize own_po p3 p6 = o
  simp only [own_z]
  by_cases h1 : own_R p1 s
  · by_cases h2 : own_R p2 a
    · by_cases h3 : own_R p3 o
      · simp [h1, h2, h3, (own_Rs _ _).mp h1, (own_Rs _ _).mp h2, (own_Rs _ _).mp h3]
      · have g3 : ¬ own_R o p3 := fun h => h3 ((own_Rs _ _).mp h)
        simp [h1, h2, h3, g3]
    · have g2 : ¬ own_R a p2 := fun h => h2 ((own_Rs _ _).mp h)
      simp [h1, h2, g2]
  · have g1 : ¬ own_R s p1 := fun h => h1 ((own_Rs _ _).mp h)
    simp [h1, g1]
theorem own_eqF {args : Array Value} {s : State} {t : Term} {C n d : String} {x : Addr} {k : Int32} (h : (Jvm.Cond.eq (Term.field t C n d) (Term.int k)).value args s none s [] = some true) (ht : t.eval args s none [] s = some (.ref x)) : s.fieldOf? x C n d = some (.int k) := by
  obtain ⟨u, w, hu, hw, k1, k2⟩ := cmp_v (Or.inl h)
  have e1 : w = .int k := (Option.some.inj ((Term.int_eval k).symm.trans hw)).symm
  subst e1
  obtain ⟨y, rfl⟩ := k2
  rw [← fld_at ht, hu]
  rw [Cond.eq_ints hu hw] at h
  simp at h
  rw [h]
theorem own_eqFL {args : Array Value} {s : State} {t : Term} {C n d : String} {x : Addr} {k : Int64} (h : (Jvm.Cond.eq (Term.field t C n d) (Term.long k)).value args s none s [] = some true) (ht : t.eval args s none [] s = some (.ref x)) : s.fieldOf? x C n d = some (.long k) := by
  obtain ⟨u, w, hu, hw, k1, k2⟩ := cmp_v (Or.inl h)
  have e1 : w = .long k := (Option.some.inj ((show (Term.long k).eval args s none [] s = some (.long k) from rfl).symm.trans hw)).symm
  subst e1
  obtain ⟨y, rfl⟩ := k2
  rw [← fld_at ht, hu]
  rw [eq_L hu hw] at h
  simp at h
  rw [h]
theorem own_eqR {args : Array Value} {s : State} {a b : Term} {x : Addr} (h : (Jvm.Cond.eq a b).value args s none s [] = some true) (hb : b.eval args s none [] s = some (.ref x)) : a.eval args s none [] s = some (.ref x) := by
  obtain ⟨u, w, hu, hw, k1, k2⟩ := cmp_v (Or.inl h)
  have e1 : w = .ref x := (Option.some.inj (hb.symm.trans hw)).symm
  subst e1
  rw [eq_R hu hw k2.2 rfl] at h
  simp at h
  rw [hu, h]
theorem own_len {args : Array Value} {s : State} {t : Term} {x : Addr} {cl : Cell} {k : Int32} (h : (Jvm.Cond.eq (Term.length t) (Term.int k)).value args s none s [] = some true) (ht : t.eval args s none [] s = some (.ref x)) (hc : s.heap[x]? = some cl) : cl.slots.size < 2 ^ 31 ∧ cl.slots.size.toInt32 = k := by
  obtain ⟨u, w, hu, hw, k1, k2⟩ := cmp_v (Or.inl h)
  have e1 : w = .int k := (Option.some.inj ((Term.int_eval k).symm.trans hw)).symm
  subst e1
  obtain ⟨y, rfl⟩ := k2
  rw [Cond.eq_ints hu hw] at h
  simp at h
  subst h
  simp only [Term.eval, Option.bind_eq_bind, ht, Option.bind_some] at hu
  obtain ⟨cell, hcell, h2⟩ := Option.bind_eq_some_iff.mp hu
  cases hc.symm.trans (State.arrayAt?_spec hcell).1
  by_cases hn : cl.slots.size < 2147483648
  · rw [if_pos hn] at h2
    exact ⟨hn, Value.int.inj (Option.some.inj h2)⟩
  · rw [if_neg hn] at h2; cases h2
set_option maxRecDepth 65536 in
set_option maxHeartbeats 40000000 in
theorem comes_1 {Post : Tables → Env → Array Value → State → Outcome → State → Prop} (hpost : ∀ tb e args s v u, (limb_1_1.after args s (.returned v) u = true ∧ limb_1_2.after args s (.returned v) u = true ∧ True) → ReturnedEndW s (.returned v) u (Jvm.fieldLocs frame_1_writes args s ++ Jvm.arrayLocs frame_1_arrays args s ++ Jvm.staticLocs frame_1_statics s) 64 3264 → Post tb e args s (.returned v) u) :
    ArmFor flags0 classFile x code maxLocals ret World_1 tables_1 room_1 Calls_1 rest_1 Pre_1 Post := by
  intro l hfl _ _ p e ha hc hk s m args below hf hA hF happ hP
  obtain ⟨hcalls, hrest, hpre⟩ := hP
  obtain ⟨-, -, -, hnamed, -, -, -, hat⟩ := (Spec.applies_iff hf).mp happ
  obtain ⟨hg, hn⟩ := and_e (Cond.before_iff.mp (show (Jvm.Cond.and given_1 narrow_1).before args s = true from hpre))
  obtain ⟨gg1, gg2⟩ := and_e hg
  obtain ⟨gg3, gg4⟩ := and_e gg2
  obtain ⟨gg5, gg6⟩ := and_e gg4
  obtain ⟨gg7, gg8⟩ := and_e gg6
  obtain ⟨gg9, gg10⟩ := and_e gg8
  obtain ⟨gg11, gg12⟩ := and_e gg10
  obtain ⟨w0, w1, w2, w3, w4, w5, rfl⟩ : ∃ w0 w1 w2 w3 w4 w5 : Value, args = #[w0, w1, w2, w3, w4, w5] := by
    have hs : args.size = 6 := by simpa [Cond.value, given_1] using gg1
    obtain ⟨L⟩ := args
    match L, hs with
    | [w0, w1, w2, w3, w4, w5], _ => exact ⟨w0, w1, w2, w3, w4, w5, rfl⟩
  have hw := fun d (hd : d ∈ tables_1) => atoms_spec (ws := Jvm.Cond.code x code maxLocals ret :: tables_1) hat d (List.mem_cons_of_mem _ hd)
  have hfit : Fit s := fun {y c} hc i hi => by
    obtain ⟨ha, rfl⟩ := Array.getElem?_eq_some_iff.mp hc
    have q := List.all_eq_true.mp ((Array.all_eq_true_iff_forall_mem.mp hF) _ (Array.getElem_mem ha)) i (List.mem_range.mpr hi)
    simpa [Array.getElem?_eq_getElem hi] using q
  obtain ⟨hsets, hown0⟩ := atoms_of _ (rest_1_c_eq ▸ (show rest_1_c.before _ s = true from hrest))
  have hr0 := Cond.before_iff.mp hown0
  obtain ⟨i0, ei0⟩ := is_v gg3
  obtain rfl : w0 = (.int i0) := Option.some.inj ei0
  obtain ⟨i1, ei1⟩ := is_v gg5
  obtain rfl : w1 = (.int i1) := Option.some.inj ei1
  obtain ⟨i2, ei2⟩ := is_v gg7
  obtain rfl : w2 = (.int i2) := Option.some.inj ei2
  obtain ⟨i3, ei3⟩ := is_v gg9
  obtain rfl : w3 = (.int i3) := Option.some.inj ei3
  obtain ⟨i4, ei4⟩ := is_v gg11
  obtain rfl : w4 = (.int i4) := Option.some.inj ei4
  obtain ⟨i5, ei5⟩ := is_v gg12
  obtain rfl : w5 = (.int i5) := Option.some.inj ei5
  have n3 := not_v (Cond.before_iff.mp (hsets _ (List.mem_of_getElem? (i := 2) rfl)))
  obtain ⟨i_cs, e_cs⟩ := is_v (Cond.before_iff.mp (hsets _ (List.mem_of_getElem? (i := 1) rfl)))
  have S_cs : Sta s s.heap "java/lang/String" "COMPACT_STRINGS" "Z" (.int i_cs) := Sta.start e_cs (Or.inl (hsets _ (List.mem_of_getElem? (i := 0) rfl)))
  have c_cs : ¬ (i_cs = (0 : Int32)) := gotF (Cond.eq_ints e_cs (Term.int_eval (0))) n3
  obtain ⟨v_sf, e_sf, r_sf⟩ := isR_v (Cond.before_iff.mp (hsets _ (List.mem_of_getElem? (i := 8) rfl)))
  have S_sf : Sta s s.heap "jdk/internal/util/Preconditions" "SIOOBE_FORMATTER" "Ljava/util/function/BiFunction;" v_sf := Sta.start e_sf (Or.inl (hsets _ (List.mem_of_getElem? (i := 7) rfl)))
  obtain ⟨n, o, h1, h2, h3, _, L, rfl, ⟨rfl, N⟩, hq⟩ := own_rm0 l s _ hw tables_1 i0 i1 i2 i3 i4 i5 i_cs v_sf s.heap s.heap.size (Nat.le_refl _) (Old.start s) c_cs r_sf S_cs S_sf p e ha hc hk s m _ below hf ((Spec.applies_iff_loose hf).mp happ).1 ⟨rfl, State.Warmed39.refl s, rfl⟩ trivial
  refine ⟨n, _, h1, h2, h3, hpost _ _ _ _ _ _ ⟨Cond.after_iff.mpr rfl, Cond.after_iff.mpr (eq_i res_at (Term.int_eval (1)) (congrArg Value.int (own_law i0 i1 i2 i3 i4 i5))), trivial⟩ ⟨hq.1, hq.2.1, hq.2.2.1, (hq.2.2.2.sift fun y hy => Or.inr (N y hy)).mono (by decide) (by decide)⟩⟩
theorem main_1_1 : Claimed_1_1 := comes_1 fun _ _ _ _ _ _ h hF => ⟨h.1, hF⟩
theorem main_1_2 : Claimed_1_2 := comes_1 fun _ _ _ _ _ _ h hF => ⟨h.2.1, hF⟩
end Jvm.Pilot.@@N@@
namespace Jvm.Pilot.@@N@@
open Jvm Jvm.ClassFile Sem Op Lib Jvm.Free Jvm.Stand Jvm.Pilot.@@N@@.Jvm.D
/-! MADE BY PROGRAM (witnessworld.py) out of the Statement's table words and the real class files: 22 classes; the members and pool entries that the words name. The judged class is class 1, her method 1. -/
namespace start1
open Jvm.ClassFile
def u (s : String) : CpInfo := .utf8 (stringToUtf16 s)
/-- a pool by its gaps: so many unusable entries, then the entry; so many at the end -/
def gap : Nat → List CpInfo → List CpInfo
  | 0, r => r
  | n + 1, r => .unusable :: gap n r
def poolList (es : List (Nat × CpInfo)) (last : Nat) : List CpInfo := es.foldr (fun e r => gap e.1 (e.2 :: r)) (gap last [])
def pool (es : List (Nat × CpInfo)) (last : Nat) : Array CpInfo := ⟨poolList es last⟩
def fileOf (pool : Array CpInfo) (this : Nat) (attrs : Array Attribute := #[]) (ms : Array MethodInfo := #[]) (fl : Nat := 33) (sup : Nat := 0) (ifs : Array Nat := #[]) (fds : Array FieldInfo := #[]) : ClassFile where
  minorVersion := 0
  majorVersion := 65
  constantPool := pool
  accessFlags := fl
  thisClass := this
  superClass := sup
  interfaces := ifs
  fields := fds
  methods := ms
  attributes := attrs
def plain (name : String) (sup : Option ClassId) : Class where
  name := name
  kind := .ordinary
  loader := none
  accessFlags := 33
  super := sup
  interfaces := #[]
  cf := none
  fields := #[]
  methods := #[]
  instanceTypes := #[]
  staticTypes := #[]
  resolved := #[]
  callSites := []
  init := .initialized
  statics := none
  mirror := none

def pool0 : Array CpInfo := pool [(5, u "<init>"), (0, u "()V"), (1, .class_ 10), (1, u "java/lang/Object")] 113

def k0c0 : Code := { maxStack := 0, maxLocals := 1, code := object_method_1_code, exceptionTable := #[], attributes := #[] }
def k0m0 : Method := { name := "<init>", desc := "()V", sig := { parameters := [], returnType := none }, accessFlags := 1, code := some k0c0 }
/-- java/lang/Object -/
def k0 : Class := { plain "java/lang/Object" none with
  accessFlags := 33
  interfaces := #[]
  cf := some (fileOf pool0 8 #[] #[{ accessFlags := 1, nameIndex := 5, descriptorIndex := 6, attributes := #[] }] 33 0 #[] #[])
  fields := #[]
  methods := #[k0m0]
  instanceTypes := #[]
  staticTypes := #[]
  resolved := Array.replicate 124 none
  statics := none }

def pool1 : Array CpInfo := pool [(2, .class_ 4), (1, u "java/lang/Object"), (0, u "<init>"), (0, u "()V"), (0, .class_ 8), (0, u "com/example/nanshe/nanshe/engine/Request"), (0, .methodref 10 11), (0, .class_ 12), (0, .nameAndType 13 14), (0, u "com/example/nanshe/nanshe/engine/RequestEqualsPinLaw"), (0, u "name"), (0, u "(I)Ljava/lang/String;"), (0, .methodref 7 16), (0, .nameAndType 5 17), (0, u "(Ljava/lang/String;Ljava/lang/String;Ljava/lang/String;)V"), (0, .methodref 7 19), (0, .nameAndType 20 21), (0, u "equals"), (0, u "(Ljava/lang/Object;)Z"), (0, .methodref 10 23), (0, .nameAndType 24 25), (0, u "same"), (0, u "(II)Z"), (0, .methodref 10 27), (0, .nameAndType 28 29), (0, u "len"), (0, u "(I)I"), (0, .methodref 10 31), (0, .nameAndType 32 33), (0, u "safe"), (0, u "(I)C"), (0, .class_ 35), (0, u "java/lang/String"), (0, .methodref 34 37), (0, .nameAndType 5 38), (0, u "([C)V"), (2, u "law"), (0, u "(IIIIII)Z")] 3

def k1m0 : Method := { name := "<init>", desc := "()V", sig := { parameters := [], returnType := none }, accessFlags := 1, code := none }
def k1c1 : Code := { maxStack := 5, maxLocals := 13, code := code, exceptionTable := #[], attributes := #[] }
def k1m1 : Method := { name := "law", desc := "(IIIIII)Z", sig := { parameters := [.int, .int, .int, .int, .int, .int], returnType := some .boolean }, accessFlags := 9, code := some k1c1 }
def k1c2 : Code := { maxStack := 2, maxLocals := 2, code := method_3_code, exceptionTable := #[], attributes := #[] }
def k1m2 : Method := { name := "safe", desc := "(I)C", sig := { parameters := [.int], returnType := some .char }, accessFlags := 10, code := some k1c2 }
def k1c3 : Code := { maxStack := 3, maxLocals := 1, code := method_4_code, exceptionTable := #[], attributes := #[] }
def k1m3 : Method := { name := "len", desc := "(I)I", sig := { parameters := [.int], returnType := some .int }, accessFlags := 10, code := some k1c3 }
def k1c4 : Code := { maxStack := 4, maxLocals := 2, code := method_5_code, exceptionTable := #[], attributes := #[] }
def k1m4 : Method := { name := "name", desc := "(I)Ljava/lang/String;", sig := { parameters := [.int], returnType := some (.object "java/lang/String") }, accessFlags := 10, code := some k1c4 }
def k1c5 : Code := { maxStack := 3, maxLocals := 2, code := method_6_code, exceptionTable := #[], attributes := #[] }
def k1m5 : Method := { name := "same", desc := "(II)Z", sig := { parameters := [.int, .int], returnType := some .boolean }, accessFlags := 10, code := some k1c5 }
/-- com/example/nanshe/nanshe/engine/RequestEqualsPinLaw -/
def k1 : Class := { plain "com/example/nanshe/nanshe/engine/RequestEqualsPinLaw" (some 0) with
  accessFlags := 49
  interfaces := #[]
  cf := some (fileOf pool1 10 #[] #[{ accessFlags := 1, nameIndex := 5, descriptorIndex := 6, attributes := #[] }, { accessFlags := 9, nameIndex := 41, descriptorIndex := 42, attributes := #[] }, { accessFlags := 10, nameIndex := 32, descriptorIndex := 33, attributes := #[] }, { accessFlags := 10, nameIndex := 28, descriptorIndex := 29, attributes := #[] }, { accessFlags := 10, nameIndex := 13, descriptorIndex := 14, attributes := #[] }, { accessFlags := 10, nameIndex := 24, descriptorIndex := 25, attributes := #[] }] 49 2 #[] #[])
  fields := #[]
  methods := #[k1m0, k1m1, k1m2, k1m3, k1m4, k1m5]
  instanceTypes := #[]
  staticTypes := #[]
  resolved := Array.replicate 46 none
  statics := none }

def pool2 : Array CpInfo := pool [(1, .methodref 2 3), (0, .class_ 4), (0, .nameAndType 5 6), (0, u "java/lang/Object"), (0, u "<init>"), (0, u "()V"), (0, .string 8), (0, u "subject"), (0, .methodref 10 11), (0, .class_ 12), (0, .nameAndType 13 14), (0, u "com/example/nanshe/nanshe/engine/Request"), (0, u "checked"), (0, u "(Ljava/lang/String;Ljava/lang/String;)Ljava/lang/String;"), (0, .fieldref 10 16), (0, .nameAndType 8 17), (0, u "Ljava/lang/String;"), (0, .string 19), (0, u "action"), (0, .fieldref 10 21), (0, .nameAndType 19 17), (0, .string 23), (0, u "object"), (0, .fieldref 10 25), (0, .nameAndType 23 17), (0, .methodref 27 28), (0, .class_ 29), (0, .nameAndType 30 31), (0, u "java/lang/String"), (0, u "equals"), (0, u "(Ljava/lang/Object;)Z"), (1, .class_ 35), (1, u "java/util/Objects"), (6, .methodref 27 43), (0, .nameAndType 44 45), (0, u "isEmpty"), (0, u "()Z"), (0, .methodref 10 47), (0, .nameAndType 48 49), (0, u "breakIn"), (0, u "(Ljava/lang/String;)I"), (16, .methodref 27 67), (0, .nameAndType 68 69), (0, u "length"), (0, u "()I"), (0, .methodref 27 71), (0, .nameAndType 72 73), (0, u "charAt"), (0, u "(I)C"), (0, .methodref 33 75), (0, .nameAndType 76 77), (0, u "requireNonNull"), (0, u "(Ljava/lang/Object;Ljava/lang/String;)Ljava/lang/Object;"), (0, .methodref 10 79), (0, .nameAndType 80 81), (0, u "isName"), (0, u "(Ljava/lang/String;)Z"), (11, .methodref 10 94), (0, .nameAndType 95 14), (0, u "unicode"), (8, .methodref 105 106), (0, .class_ 107), (0, .nameAndType 108 109), (0, u "java/lang/Character"), (0, u "isHighSurrogate"), (0, u "(C)Z"), (0, .methodref 105 111), (0, .nameAndType 112 109), (0, u "isLowSurrogate"), (13, u "(Ljava/lang/String;Ljava/lang/String;Ljava/lang/String;)V")] 34

def k2c0 : Code := { maxStack := 3, maxLocals := 4, code := prog_7_method_1_code, exceptionTable := #[], attributes := #[] }
def k2m0 : Method := { name := "<init>", desc := "(Ljava/lang/String;Ljava/lang/String;Ljava/lang/String;)V", sig := { parameters := [(.object "java/lang/String"), (.object "java/lang/String"), (.object "java/lang/String")], returnType := none }, accessFlags := 1, code := some k2c0 }
def k2c1 : Code := { maxStack := 2, maxLocals := 3, code := prog_7_method_5_code, exceptionTable := #[], attributes := #[] }
def k2m1 : Method := { name := "equals", desc := "(Ljava/lang/Object;)Z", sig := { parameters := [(.object "java/lang/Object")], returnType := some .boolean }, accessFlags := 1, code := some k2c1 }
def k2c2 : Code := { maxStack := 1, maxLocals := 1, code := prog_7_method_8_code, exceptionTable := #[], attributes := #[] }
def k2m2 : Method := { name := "isName", desc := "(Ljava/lang/String;)Z", sig := { parameters := [(.object "java/lang/String")], returnType := some .boolean }, accessFlags := 9, code := some k2c2 }
def k2c3 : Code := { maxStack := 2, maxLocals := 3, code := prog_7_method_10_code, exceptionTable := #[], attributes := #[] }
def k2m3 : Method := { name := "breakIn", desc := "(Ljava/lang/String;)I", sig := { parameters := [(.object "java/lang/String")], returnType := some .int }, accessFlags := 10, code := some k2c3 }
def k2c4 : Code := { maxStack := 4, maxLocals := 2, code := prog_7_method_11_code, exceptionTable := #[], attributes := #[] }
def k2m4 : Method := { name := "checked", desc := "(Ljava/lang/String;Ljava/lang/String;)Ljava/lang/String;", sig := { parameters := [(.object "java/lang/String"), (.object "java/lang/String")], returnType := some (.object "java/lang/String") }, accessFlags := 10, code := some k2c4 }
def k2c5 : Code := { maxStack := 4, maxLocals := 7, code := prog_7_method_13_code, exceptionTable := #[], attributes := #[] }
def k2m5 : Method := { name := "unicode", desc := "(Ljava/lang/String;Ljava/lang/String;)Ljava/lang/String;", sig := { parameters := [(.object "java/lang/String"), (.object "java/lang/String")], returnType := some (.object "java/lang/String") }, accessFlags := 10, code := some k2c5 }
/-- com/example/nanshe/nanshe/engine/Request -/
def k2 : Class := { plain "com/example/nanshe/nanshe/engine/Request" (some 0) with
  accessFlags := 49
  interfaces := #[]
  cf := some (fileOf pool2 10 #[] #[{ accessFlags := 1, nameIndex := 5, descriptorIndex := 126, attributes := #[] }, { accessFlags := 1, nameIndex := 30, descriptorIndex := 31, attributes := #[] }, { accessFlags := 9, nameIndex := 80, descriptorIndex := 81, attributes := #[] }, { accessFlags := 10, nameIndex := 48, descriptorIndex := 49, attributes := #[] }, { accessFlags := 10, nameIndex := 13, descriptorIndex := 14, attributes := #[] }, { accessFlags := 10, nameIndex := 95, descriptorIndex := 14, attributes := #[] }] 49 2 #[] #[{ accessFlags := 18, nameIndex := 8, descriptorIndex := 17, attributes := #[] }, { accessFlags := 18, nameIndex := 19, descriptorIndex := 17, attributes := #[] }, { accessFlags := 18, nameIndex := 23, descriptorIndex := 17, attributes := #[] }])
  fields := #[{ name := "subject", type := (.object "java/lang/String"), accessFlags := 18, slot := 0, constantValue := 0 }, { name := "action", type := (.object "java/lang/String"), accessFlags := 18, slot := 1, constantValue := 0 }, { name := "object", type := (.object "java/lang/String"), accessFlags := 18, slot := 2, constantValue := 0 }]
  methods := #[k2m0, k2m1, k2m2, k2m3, k2m4, k2m5]
  instanceTypes := #[(.object "java/lang/String"), (.object "java/lang/String"), (.object "java/lang/String")]
  staticTypes := #[]
  resolved := Array.replicate 161 none
  statics := none }

def pool3 : Array CpInfo := pool [(1, .class_ 2), (0, u "java/io/Serializable"), (0, .class_ 4), (0, u "java/lang/Object")] 2

/-- java/io/Serializable -/
def k3 : Class := { plain "java/io/Serializable" (some 0) with
  accessFlags := 1537
  interfaces := #[]
  cf := some (fileOf pool3 1 #[] #[] 1537 3 #[] #[])
  fields := #[]
  methods := #[]
  instanceTypes := #[]
  staticTypes := #[]
  resolved := Array.replicate 7 none
  statics := none }

def pool4 : Array CpInfo := pool [(1, .class_ 2), (0, u "java/lang/Comparable"), (0, .class_ 4), (0, u "java/lang/Object")] 7

/-- java/lang/Comparable -/
def k4 : Class := { plain "java/lang/Comparable" (some 0) with
  accessFlags := 1537
  interfaces := #[]
  cf := some (fileOf pool4 1 #[] #[] 1537 3 #[] #[])
  fields := #[]
  methods := #[]
  instanceTypes := #[]
  staticTypes := #[]
  resolved := Array.replicate 12 none
  statics := none }

def pool5 : Array CpInfo := pool [(2, .class_ 4), (1, u "java/lang/CharSequence"), (42, .class_ 48), (0, u "java/lang/CharSequence$1CodePointIterator"), (10, .class_ 60), (0, u "java/lang/CharSequence$1CharIterator"), (5, .class_ 67), (0, u "java/lang/Object")] 63

/-- java/lang/CharSequence -/
def k5 : Class := { plain "java/lang/CharSequence" (some 0) with
  accessFlags := 1537
  interfaces := #[]
  cf := some (fileOf pool5 2 #[.nestMembers #[47, 59]] #[] 1537 66 #[] #[])
  fields := #[]
  methods := #[]
  instanceTypes := #[]
  staticTypes := #[]
  resolved := Array.replicate 131 none
  statics := none }

def pool6 : Array CpInfo := pool [(1, .class_ 2), (0, u "java/lang/constant/Constable"), (0, .class_ 4), (0, u "java/lang/Object")] 6

/-- java/lang/constant/Constable -/
def k6 : Class := { plain "java/lang/constant/Constable" (some 0) with
  accessFlags := 1537
  interfaces := #[]
  cf := some (fileOf pool6 1 #[] #[] 1537 3 #[] #[])
  fields := #[]
  methods := #[]
  instanceTypes := #[]
  staticTypes := #[]
  resolved := Array.replicate 11 none
  statics := none }

def pool7 : Array CpInfo := pool [(1, .class_ 2), (0, u "java/lang/constant/ConstantDesc"), (0, .class_ 4), (0, u "java/lang/Object")] 32

/-- java/lang/constant/ConstantDesc -/
def k7 : Class := { plain "java/lang/constant/ConstantDesc" (some 0) with
  accessFlags := 1537
  interfaces := #[]
  cf := some (fileOf pool7 1 #[] #[] 1537 3 #[] #[])
  fields := #[]
  methods := #[]
  instanceTypes := #[]
  staticTypes := #[]
  resolved := Array.replicate 37 none
  statics := none }

def pool8 : Array CpInfo := pool [(1, .methodref 2 3), (0, .class_ 4), (0, .nameAndType 5 6), (0, u "java/lang/Object"), (0, u "<init>"), (0, u "()V"), (2, .fieldref 10 11), (0, .class_ 12), (0, .nameAndType 13 14), (0, u "java/lang/String"), (0, u "value"), (0, u "[B"), (0, .fieldref 10 16), (0, .nameAndType 17 18), (0, u "coder"), (0, u "B"), (2, u "hash"), (0, u "I"), (2, u "hashIsZero"), (0, u "Z"), (0, .methodref 10 28), (0, .nameAndType 5 29), (0, u "([CIILjava/lang/Void;)V"), (8, .fieldref 10 39), (0, .nameAndType 40 26), (0, u "COMPACT_STRINGS"), (1, .class_ 44), (1, u "java/lang/StringUTF16"), (0, u "compress"), (1, .methodref 42 48), (0, .nameAndType 49 50), (0, u "coderFromArrayLen"), (0, u "([BI)B"), (56, .class_ 109), (1, u "java/lang/StringLatin1"), (32, u "()Z"), (34, .methodref 42 178), (0, .nameAndType 45 179), (0, u "([CII)[B"), (154, u "()I"), (0, .methodref 10 336), (0, .nameAndType 17 337), (0, u "()B"), (25, u "([BI)C"), (27, u "(II)V"), (35, u "(I)C"), (64, .methodref 10 493), (0, .nameAndType 494 142), (0, u "isLatin1"), (0, .methodref 107 496), (0, .nameAndType 497 363), (0, u "charAt"), (3, u "checkIndex"), (5, u "length"), (33, .methodref 107 542), (0, .nameAndType 543 544), (0, u "equals"), (0, u "([B[B)Z"), (28, u "(Ljava/lang/Object;)Z"), (1, .class_ 576), (0, u "java/lang/CharSequence"), (22, u "CASE_INSENSITIVE_ORDER"), (0, u "Ljava/util/Comparator;"), (91, u "isEmpty"), (317, u "([C)V"), (42, .fieldref 1054 1055), (0, .class_ 1056), (0, .nameAndType 1057 1058), (0, u "jdk/internal/util/Preconditions"), (0, u "SIOOBE_FORMATTER"), (0, u "Ljava/util/function/BiFunction;"), (0, .methodref 1054 1060), (0, .nameAndType 501 1061), (0, u "(IILjava/util/function/BiFunction;)I"), (39, u "serialPersistentFields"), (0, u "[Ljava/io/ObjectStreamField;"), (0, .class_ 1104), (0, u "java/lang/String$CaseInsensitiveComparator"), (1, .class_ 1107), (0, u "java/io/Serializable"), (0, .class_ 1109), (0, u "java/lang/Comparable"), (0, .class_ 1111), (0, u "java/lang/constant/Constable"), (0, .class_ 1113), (0, u "java/lang/constant/ConstantDesc"), (2, u "serialVersionUID"), (0, u "J"), (3, u "REPL"), (0, u "C"), (2, u "LATIN1"), (1, u "UTF16")] 323

def k8m0 : Method := { name := "<init>", desc := "()V", sig := { parameters := [], returnType := none }, accessFlags := 1, code := none }
def k8c1 : Code := { maxStack := 5, maxLocals := 2, code := jdk_42_method_3_code, exceptionTable := #[], attributes := #[] }
def k8m1 : Method := { name := "<init>", desc := "([C)V", sig := { parameters := [(.array .char)], returnType := none }, accessFlags := 1, code := some k8c1 }
def k8c2 : Code := { maxStack := 2, maxLocals := 1, code := jdk_42_method_54_code, exceptionTable := #[], attributes := #[] }
def k8m2 : Method := { name := "length", desc := "()I", sig := { parameters := [], returnType := some .int }, accessFlags := 1, code := some k8c2 }
def k8c3 : Code := { maxStack := 1, maxLocals := 1, code := jdk_42_method_55_code, exceptionTable := #[], attributes := #[] }
def k8m3 : Method := { name := "isEmpty", desc := "()Z", sig := { parameters := [], returnType := some .boolean }, accessFlags := 1, code := some k8c3 }
def k8c4 : Code := { maxStack := 2, maxLocals := 2, code := jdk_42_method_56_code, exceptionTable := #[], attributes := #[] }
def k8m4 : Method := { name := "charAt", desc := "(I)C", sig := { parameters := [.int], returnType := some .char }, accessFlags := 1, code := some k8c4 }
def k8c5 : Code := { maxStack := 2, maxLocals := 3, code := jdk_42_method_66_code, exceptionTable := #[], attributes := #[] }
def k8m5 : Method := { name := "equals", desc := "(Ljava/lang/Object;)Z", sig := { parameters := [(.object "java/lang/Object")], returnType := some .boolean }, accessFlags := 1, code := some k8c5 }
def k8c6 : Code := { maxStack := 4, maxLocals := 6, code := jdk_42_method_149_code, exceptionTable := #[], attributes := #[] }
def k8m6 : Method := { name := "<init>", desc := "([CIILjava/lang/Void;)V", sig := { parameters := [(.array .char), .int, .int, (.object "java/lang/Void")], returnType := none }, accessFlags := 2, code := some k8c6 }
def k8c7 : Code := { maxStack := 1, maxLocals := 1, code := jdk_42_method_152_code, exceptionTable := #[], attributes := #[] }
def k8m7 : Method := { name := "coder", desc := "()B", sig := { parameters := [], returnType := some .byte }, accessFlags := 0, code := some k8c7 }
def k8c8 : Code := { maxStack := 1, maxLocals := 1, code := jdk_42_method_154_code, exceptionTable := #[], attributes := #[] }
def k8m8 : Method := { name := "isLatin1", desc := "()Z", sig := { parameters := [], returnType := some .boolean }, accessFlags := 0, code := some k8c8 }
def k8c9 : Code := { maxStack := 3, maxLocals := 2, code := jdk_42_method_155_code, exceptionTable := #[], attributes := #[] }
def k8m9 : Method := { name := "checkIndex", desc := "(II)V", sig := { parameters := [.int, .int], returnType := none }, accessFlags := 8, code := some k8c9 }
/-- java/lang/String -/
def k8 : Class := { plain "java/lang/String" (some 0) with
  accessFlags := 49
  interfaces := #[3, 4, 5, 6, 7]
  cf := some (fileOf pool8 10 #[.nestMembers #[1103]] #[{ accessFlags := 1, nameIndex := 5, descriptorIndex := 6, attributes := #[] }, { accessFlags := 1, nameIndex := 5, descriptorIndex := 1010, attributes := #[] }, { accessFlags := 1, nameIndex := 507, descriptorIndex := 334, attributes := #[] }, { accessFlags := 1, nameIndex := 692, descriptorIndex := 142, attributes := #[] }, { accessFlags := 1, nameIndex := 497, descriptorIndex := 427, attributes := #[] }, { accessFlags := 1, nameIndex := 543, descriptorIndex := 573, attributes := #[] }, { accessFlags := 2, nameIndex := 5, descriptorIndex := 29, attributes := #[] }, { accessFlags := 0, nameIndex := 17, descriptorIndex := 337, attributes := #[] }, { accessFlags := 0, nameIndex := 494, descriptorIndex := 142, attributes := #[] }, { accessFlags := 8, nameIndex := 501, descriptorIndex := 391, attributes := #[] }] 49 2 #[1106, 1108, 575, 1110, 1112] #[{ accessFlags := 18, nameIndex := 13, descriptorIndex := 14, attributes := #[] }, { accessFlags := 18, nameIndex := 17, descriptorIndex := 18, attributes := #[] }, { accessFlags := 2, nameIndex := 21, descriptorIndex := 22, attributes := #[] }, { accessFlags := 2, nameIndex := 25, descriptorIndex := 26, attributes := #[] }, { accessFlags := 26, nameIndex := 1116, descriptorIndex := 1117, attributes := #[] }, { accessFlags := 24, nameIndex := 40, descriptorIndex := 26, attributes := #[] }, { accessFlags := 26, nameIndex := 1101, descriptorIndex := 1102, attributes := #[] }, { accessFlags := 26, nameIndex := 1121, descriptorIndex := 1122, attributes := #[] }, { accessFlags := 25, nameIndex := 599, descriptorIndex := 600, attributes := #[] }, { accessFlags := 24, nameIndex := 1125, descriptorIndex := 18, attributes := #[] }, { accessFlags := 24, nameIndex := 1127, descriptorIndex := 18, attributes := #[] }])
  fields := #[{ name := "value", type := (.array .byte), accessFlags := 18, slot := 0, constantValue := 0 }, { name := "coder", type := .byte, accessFlags := 18, slot := 1, constantValue := 0 }, { name := "hash", type := .int, accessFlags := 2, slot := 2, constantValue := 0 }, { name := "hashIsZero", type := .boolean, accessFlags := 2, slot := 3, constantValue := 0 }, { name := "serialVersionUID", type := .long, accessFlags := 26, slot := 0, constantValue := 0 }, { name := "COMPACT_STRINGS", type := .boolean, accessFlags := 24, slot := 1, constantValue := 0 }, { name := "serialPersistentFields", type := (.array (.object "java/io/ObjectStreamField")), accessFlags := 26, slot := 2, constantValue := 0 }, { name := "REPL", type := .char, accessFlags := 26, slot := 3, constantValue := 0 }, { name := "CASE_INSENSITIVE_ORDER", type := (.object "java/util/Comparator"), accessFlags := 25, slot := 4, constantValue := 0 }, { name := "LATIN1", type := .byte, accessFlags := 24, slot := 5, constantValue := 0 }, { name := "UTF16", type := .byte, accessFlags := 24, slot := 6, constantValue := 0 }]
  methods := #[k8m0, k8m1, k8m2, k8m3, k8m4, k8m5, k8m6, k8m7, k8m8, k8m9]
  instanceTypes := #[(.array .byte), .byte, .int, .boolean]
  staticTypes := #[.long, .boolean, (.array (.object "java/io/ObjectStreamField")), .char, (.object "java/util/Comparator"), .byte, .byte]
  resolved := Array.replicate 1451 none
  statics := some 0 }

def pool9 : Array CpInfo := pool [(6, .class_ 8), (1, u "java/lang/Object"), (0, u "<init>"), (0, u "()V"), (1, .class_ 14), (1, u "java/lang/StringUTF16"), (31, u "$assertionsDisabled"), (0, u "Z"), (13, u "HI_BYTE_SHIFT"), (0, u "I"), (2, u "LO_BYTE_SHIFT"), (49, .methodref 12 116), (0, .nameAndType 117 118), (0, u "compress"), (0, u "([CI[BII)I"), (3, u "([CII)[B"), (138, u "coderFromArrayLen"), (0, u "([BI)B"), (106, .class_ 371), (1, u "java/lang/StringUTF16$LinesSpliterator"), (58, u "MAX_LENGTH"), (196, .class_ 628), (0, u "java/lang/StringUTF16$CodePointsSpliterator"), (0, .class_ 630), (0, u "java/lang/StringUTF16$CharsSpliterator")] 4

def k9m0 : Method := { name := "<init>", desc := "()V", sig := { parameters := [], returnType := none }, accessFlags := 0, code := none }
def k9c1 : Code := { maxStack := 2, maxLocals := 2, code := jdk_52_method_15_code, exceptionTable := #[], attributes := #[] }
def k9m1 : Method := { name := "coderFromArrayLen", desc := "([BI)B", sig := { parameters := [(.array .byte), .int], returnType := some .byte }, accessFlags := 8, code := some k9c1 }
def k9c2 : Code := { maxStack := 5, maxLocals := 6, code := jdk_52_method_16_code, exceptionTable := #[], attributes := #[] }
def k9m2 : Method := { name := "compress", desc := "([CII)[B", sig := { parameters := [(.array .char), .int, .int], returnType := some (.array .byte) }, accessFlags := 9, code := some k9c2 }
def k9c3 : Code := { maxStack := 3, maxLocals := 7, code := jdk_52_method_21_code, exceptionTable := #[], attributes := #[] }
def k9m3 : Method := { name := "compress", desc := "([CI[BII)I", sig := { parameters := [(.array .char), .int, (.array .byte), .int, .int], returnType := some .int }, accessFlags := 9, code := some k9c3 }
/-- java/lang/StringUTF16 -/
def k9 : Class := { plain "java/lang/StringUTF16" (some 0) with
  accessFlags := 48
  interfaces := #[]
  cf := some (fileOf pool9 12 #[.nestMembers #[627, 629, 369]] #[{ accessFlags := 0, nameIndex := 9, descriptorIndex := 10, attributes := #[] }, { accessFlags := 8, nameIndex := 261, descriptorIndex := 262, attributes := #[] }, { accessFlags := 9, nameIndex := 117, descriptorIndex := 122, attributes := #[] }, { accessFlags := 9, nameIndex := 117, descriptorIndex := 118, attributes := #[] }] 48 6 #[] #[{ accessFlags := 26, nameIndex := 61, descriptorIndex := 62, attributes := #[] }, { accessFlags := 26, nameIndex := 65, descriptorIndex := 62, attributes := #[] }, { accessFlags := 24, nameIndex := 430, descriptorIndex := 62, attributes := #[] }, { accessFlags := 4120, nameIndex := 46, descriptorIndex := 47, attributes := #[] }])
  fields := #[{ name := "HI_BYTE_SHIFT", type := .int, accessFlags := 26, slot := 0, constantValue := 0 }, { name := "LO_BYTE_SHIFT", type := .int, accessFlags := 26, slot := 1, constantValue := 0 }, { name := "MAX_LENGTH", type := .int, accessFlags := 24, slot := 2, constantValue := 0 }, { name := "$assertionsDisabled", type := .boolean, accessFlags := 4120, slot := 3, constantValue := 0 }]
  methods := #[k9m0, k9m1, k9m2, k9m3]
  instanceTypes := #[]
  staticTypes := #[.int, .int, .int, .boolean]
  resolved := Array.replicate 635 none
  statics := none }

def pool10 : Array CpInfo := pool [(2, .class_ 4), (1, u "java/lang/Object"), (0, u "<init>"), (0, u "()V"), (35, .class_ 44), (1, u "java/util/Objects"), (0, u "requireNonNull"), (48, u "(Ljava/lang/Object;Ljava/lang/String;)Ljava/lang/Object;")] 89

def k10m0 : Method := { name := "<init>", desc := "()V", sig := { parameters := [], returnType := none }, accessFlags := 2, code := none }
def k10c1 : Code := { maxStack := 3, maxLocals := 2, code := jdk_31_method_11_code, exceptionTable := #[], attributes := #[] }
def k10m1 : Method := { name := "requireNonNull", desc := "(Ljava/lang/Object;Ljava/lang/String;)Ljava/lang/Object;", sig := { parameters := [(.object "java/lang/Object"), (.object "java/lang/String")], returnType := some (.object "java/lang/Object") }, accessFlags := 9, code := some k10c1 }
/-- java/util/Objects -/
def k10 : Class := { plain "java/util/Objects" (some 0) with
  accessFlags := 49
  interfaces := #[]
  cf := some (fileOf pool10 42 #[] #[{ accessFlags := 2, nameIndex := 5, descriptorIndex := 6, attributes := #[] }, { accessFlags := 9, nameIndex := 45, descriptorIndex := 94, attributes := #[] }] 49 2 #[] #[])
  fields := #[]
  methods := #[k10m0, k10m1]
  instanceTypes := #[]
  staticTypes := #[]
  resolved := Array.replicate 184 none
  statics := none }

def pool11 : Array CpInfo := pool [(1, .class_ 2), (0, u "java/lang/String"), (1, .class_ 6), (1, u "java/lang/Object"), (0, u "<init>"), (0, u "()V"), (0, .methodref 1 10), (0, .nameAndType 11 12), (0, u "checkIndex"), (0, u "(II)V"), (1, .class_ 16), (1, u "java/lang/StringLatin1"), (36, u "([BI)C"), (67, u "$assertionsDisabled"), (0, u "Z"), (98, .class_ 223), (1, u "java/lang/StringLatin1$LinesSpliterator"), (28, u "charAt"), (28, u "equals"), (0, u "([B[B)Z"), (107, .class_ 391), (0, u "java/lang/StringLatin1$CharsSpliterator")] 3

def k11m0 : Method := { name := "<init>", desc := "()V", sig := { parameters := [], returnType := none }, accessFlags := 0, code := none }
def k11c1 : Code := { maxStack := 2, maxLocals := 2, code := jdk_43_method_2_code, exceptionTable := #[], attributes := #[] }
def k11m1 : Method := { name := "charAt", desc := "([BI)C", sig := { parameters := [(.array .byte), .int], returnType := some .char }, accessFlags := 9, code := some k11c1 }
def k11c2 : Code := { maxStack := 3, maxLocals := 3, code := jdk_43_method_13_code, exceptionTable := #[], attributes := #[] }
def k11m2 : Method := { name := "equals", desc := "([B[B)Z", sig := { parameters := [(.array .byte), (.array .byte)], returnType := some .boolean }, accessFlags := 9, code := some k11c2 }
/-- java/lang/StringLatin1 -/
def k11 : Class := { plain "java/lang/StringLatin1" (some 0) with
  accessFlags := 48
  interfaces := #[]
  cf := some (fileOf pool11 14 #[.nestMembers #[390, 221]] #[{ accessFlags := 0, nameIndex := 7, descriptorIndex := 8, attributes := #[] }, { accessFlags := 9, nameIndex := 252, descriptorIndex := 53, attributes := #[] }, { accessFlags := 9, nameIndex := 281, descriptorIndex := 282, attributes := #[] }] 48 4 #[] #[{ accessFlags := 4120, nameIndex := 121, descriptorIndex := 122, attributes := #[] }])
  fields := #[{ name := "$assertionsDisabled", type := .boolean, accessFlags := 4120, slot := 0, constantValue := 0 }]
  methods := #[k11m0, k11m1, k11m2]
  instanceTypes := #[]
  staticTypes := #[.boolean]
  resolved := Array.replicate 395 none
  statics := none }

def pool12 : Array CpInfo := pool [(2, .class_ 4), (1, u "java/lang/Object"), (0, u "<init>"), (0, u "()V"), (17, .class_ 26), (1, u "jdk/internal/util/Preconditions"), (6, u "checkIndex"), (21, .class_ 56), (0, u "jdk/internal/util/Preconditions$4"), (57, .class_ 115), (0, u "jdk/internal/util/Preconditions$1"), (7, u "SIOOBE_FORMATTER"), (0, u "Ljava/util/function/BiFunction;"), (0, .class_ 126), (0, u "jdk/internal/util/Preconditions$2"), (3, u "AIOOBE_FORMATTER"), (0, .class_ 132), (0, u "jdk/internal/util/Preconditions$3"), (3, u "IOOBE_FORMATTER"), (41, u "(IILjava/util/function/BiFunction;)I")] 15

def k12m0 : Method := { name := "<init>", desc := "()V", sig := { parameters := [], returnType := none }, accessFlags := 1, code := none }
def k12c1 : Code := { maxStack := 3, maxLocals := 3, code := jdk_41_method_11_code, exceptionTable := #[], attributes := #[] }
def k12m1 : Method := { name := "checkIndex", desc := "(IILjava/util/function/BiFunction;)I", sig := { parameters := [.int, .int, (.object "java/util/function/BiFunction")], returnType := some .int }, accessFlags := 9, code := some k12c1 }
/-- jdk/internal/util/Preconditions -/
def k12 : Class := { plain "jdk/internal/util/Preconditions" (some 0) with
  accessFlags := 33
  interfaces := #[]
  cf := some (fileOf pool12 24 #[.nestMembers #[55, 131, 125, 114]] #[{ accessFlags := 1, nameIndex := 5, descriptorIndex := 6, attributes := #[] }, { accessFlags := 9, nameIndex := 33, descriptorIndex := 178, attributes := #[] }] 33 2 #[] #[{ accessFlags := 25, nameIndex := 123, descriptorIndex := 124, attributes := #[] }, { accessFlags := 25, nameIndex := 130, descriptorIndex := 124, attributes := #[] }, { accessFlags := 25, nameIndex := 136, descriptorIndex := 124, attributes := #[] }])
  fields := #[{ name := "SIOOBE_FORMATTER", type := (.object "java/util/function/BiFunction"), accessFlags := 25, slot := 0, constantValue := 0 }, { name := "AIOOBE_FORMATTER", type := (.object "java/util/function/BiFunction"), accessFlags := 25, slot := 1, constantValue := 0 }, { name := "IOOBE_FORMATTER", type := (.object "java/util/function/BiFunction"), accessFlags := 25, slot := 2, constantValue := 0 }]
  methods := #[k12m0, k12m1]
  instanceTypes := #[]
  staticTypes := #[(.object "java/util/function/BiFunction"), (.object "java/util/function/BiFunction"), (.object "java/util/function/BiFunction")]
  resolved := Array.replicate 194 none
  statics := some 1 }

def pool13 : Array CpInfo := pool [(1, .class_ 2), (0, u "java/lang/Character"), (18, u "value"), (0, u "C"), (19, .class_ 44), (1, u "java/lang/Object"), (3, .class_ 50), (1, u "java/lang/Character$CharacterCache"), (24, .integer 55296), (0, .integer 56320), (3, u "isHighSurrogate"), (0, u "(C)Z"), (2, u "isLowSurrogate"), (199, u "$assertionsDisabled"), (0, u "Z"), (21, .class_ 309), (1, u "java/lang/Character$UnicodeBlock"), (73, u "TYPE"), (0, u "Ljava/lang/Class;"), (0, .class_ 386), (0, u "java/io/Serializable"), (0, .class_ 388), (0, u "java/lang/Comparable"), (0, .class_ 390), (0, u "java/lang/constant/Constable"), (0, u "MIN_RADIX"), (0, u "I"), (2, u "MAX_RADIX"), (1, u "MIN_VALUE"), (1, u "MAX_VALUE"), (3, u "UNASSIGNED"), (0, u "B"), (0, u "UPPERCASE_LETTER"), (1, u "LOWERCASE_LETTER"), (0, u "TITLECASE_LETTER"), (1, u "MODIFIER_LETTER"), (1, u "OTHER_LETTER"), (1, u "NON_SPACING_MARK"), (1, u "ENCLOSING_MARK"), (1, u "COMBINING_SPACING_MARK"), (1, u "DECIMAL_DIGIT_NUMBER"), (1, u "LETTER_NUMBER"), (1, u "OTHER_NUMBER"), (1, u "SPACE_SEPARATOR"), (1, u "LINE_SEPARATOR"), (1, u "PARAGRAPH_SEPARATOR"), (1, u "CONTROL"), (1, u "FORMAT"), (1, u "PRIVATE_USE"), (1, u "SURROGATE"), (1, u "DASH_PUNCTUATION"), (1, u "START_PUNCTUATION"), (1, u "END_PUNCTUATION"), (1, u "CONNECTOR_PUNCTUATION"), (1, u "OTHER_PUNCTUATION"), (1, u "MATH_SYMBOL"), (1, u "CURRENCY_SYMBOL"), (1, u "MODIFIER_SYMBOL"), (1, u "OTHER_SYMBOL"), (1, u "INITIAL_QUOTE_PUNCTUATION"), (1, u "FINAL_QUOTE_PUNCTUATION"), (1, u "ERROR"), (1, u "DIRECTIONALITY_UNDEFINED"), (0, u "DIRECTIONALITY_LEFT_TO_RIGHT"), (0, u "DIRECTIONALITY_RIGHT_TO_LEFT"), (0, u "DIRECTIONALITY_RIGHT_TO_LEFT_ARABIC"), (0, u "DIRECTIONALITY_EUROPEAN_NUMBER"), (0, u "DIRECTIONALITY_EUROPEAN_NUMBER_SEPARATOR"), (0, u "DIRECTIONALITY_EUROPEAN_NUMBER_TERMINATOR"), (0, u "DIRECTIONALITY_ARABIC_NUMBER"), (0, u "DIRECTIONALITY_COMMON_NUMBER_SEPARATOR"), (0, u "DIRECTIONALITY_NONSPACING_MARK"), (0, u "DIRECTIONALITY_BOUNDARY_NEUTRAL"), (0, u "DIRECTIONALITY_PARAGRAPH_SEPARATOR"), (0, u "DIRECTIONALITY_SEGMENT_SEPARATOR"), (0, u "DIRECTIONALITY_WHITESPACE"), (0, u "DIRECTIONALITY_OTHER_NEUTRALS"), (0, u "DIRECTIONALITY_LEFT_TO_RIGHT_EMBEDDING"), (0, u "DIRECTIONALITY_LEFT_TO_RIGHT_OVERRIDE"), (0, u "DIRECTIONALITY_RIGHT_TO_LEFT_EMBEDDING"), (0, u "DIRECTIONALITY_RIGHT_TO_LEFT_OVERRIDE"), (1, u "DIRECTIONALITY_POP_DIRECTIONAL_FORMAT"), (0, u "DIRECTIONALITY_LEFT_TO_RIGHT_ISOLATE"), (0, u "DIRECTIONALITY_RIGHT_TO_LEFT_ISOLATE"), (0, u "DIRECTIONALITY_FIRST_STRONG_ISOLATE"), (0, u "DIRECTIONALITY_POP_DIRECTIONAL_ISOLATE"), (0, u "MIN_HIGH_SURROGATE"), (0, u "MAX_HIGH_SURROGATE"), (1, u "MIN_LOW_SURROGATE"), (0, u "MAX_LOW_SURROGATE"), (1, u "MIN_SURROGATE"), (0, u "MAX_SURROGATE"), (0, u "MIN_SUPPLEMENTARY_CODE_POINT"), (0, u "MIN_CODE_POINT"), (0, u "MAX_CODE_POINT"), (1, u "serialVersionUID"), (0, u "J"), (2, u "SIZE"), (0, u "BYTES"), (88, .class_ 596), (0, u "java/lang/Character$UnicodeScript"), (0, .class_ 598), (0, u "java/lang/Character$Subset")] 5

def k13c0 : Code := { maxStack := 2, maxLocals := 1, code := jdk_89_method_14_code, exceptionTable := #[], attributes := #[] }
def k13m0 : Method := { name := "isHighSurrogate", desc := "(C)Z", sig := { parameters := [.char], returnType := some .boolean }, accessFlags := 9, code := some k13c0 }
def k13c1 : Code := { maxStack := 2, maxLocals := 1, code := jdk_89_method_15_code, exceptionTable := #[], attributes := #[] }
def k13m1 : Method := { name := "isLowSurrogate", desc := "(C)Z", sig := { parameters := [.char], returnType := some .boolean }, accessFlags := 9, code := some k13c1 }
/-- java/lang/Character -/
def k13 : Class := { plain "java/lang/Character" (some 0) with
  accessFlags := 49
  interfaces := #[3, 4, 6]
  cf := some (fileOf pool13 1 #[.nestMembers #[48, 595, 307, 597]] #[{ accessFlags := 9, nameIndex := 80, descriptorIndex := 81, attributes := #[] }, { accessFlags := 9, nameIndex := 84, descriptorIndex := 81, attributes := #[] }] 49 42 #[385, 387, 389] #[{ accessFlags := 25, nameIndex := 391, descriptorIndex := 392, attributes := #[] }, { accessFlags := 25, nameIndex := 395, descriptorIndex := 392, attributes := #[] }, { accessFlags := 25, nameIndex := 397, descriptorIndex := 22, attributes := #[] }, { accessFlags := 25, nameIndex := 399, descriptorIndex := 22, attributes := #[] }, { accessFlags := 25, nameIndex := 383, descriptorIndex := 384, attributes := #[] }, { accessFlags := 25, nameIndex := 403, descriptorIndex := 404, attributes := #[] }, { accessFlags := 25, nameIndex := 405, descriptorIndex := 404, attributes := #[] }, { accessFlags := 25, nameIndex := 407, descriptorIndex := 404, attributes := #[] }, { accessFlags := 25, nameIndex := 408, descriptorIndex := 404, attributes := #[] }, { accessFlags := 25, nameIndex := 410, descriptorIndex := 404, attributes := #[] }, { accessFlags := 25, nameIndex := 412, descriptorIndex := 404, attributes := #[] }, { accessFlags := 25, nameIndex := 414, descriptorIndex := 404, attributes := #[] }, { accessFlags := 25, nameIndex := 416, descriptorIndex := 404, attributes := #[] }, { accessFlags := 25, nameIndex := 418, descriptorIndex := 404, attributes := #[] }, { accessFlags := 25, nameIndex := 420, descriptorIndex := 404, attributes := #[] }, { accessFlags := 25, nameIndex := 422, descriptorIndex := 404, attributes := #[] }, { accessFlags := 25, nameIndex := 424, descriptorIndex := 404, attributes := #[] }, { accessFlags := 25, nameIndex := 426, descriptorIndex := 404, attributes := #[] }, { accessFlags := 25, nameIndex := 428, descriptorIndex := 404, attributes := #[] }, { accessFlags := 25, nameIndex := 430, descriptorIndex := 404, attributes := #[] }, { accessFlags := 25, nameIndex := 432, descriptorIndex := 404, attributes := #[] }, { accessFlags := 25, nameIndex := 434, descriptorIndex := 404, attributes := #[] }, { accessFlags := 25, nameIndex := 436, descriptorIndex := 404, attributes := #[] }, { accessFlags := 25, nameIndex := 438, descriptorIndex := 404, attributes := #[] }, { accessFlags := 25, nameIndex := 440, descriptorIndex := 404, attributes := #[] }, { accessFlags := 25, nameIndex := 442, descriptorIndex := 404, attributes := #[] }, { accessFlags := 25, nameIndex := 444, descriptorIndex := 404, attributes := #[] }, { accessFlags := 25, nameIndex := 446, descriptorIndex := 404, attributes := #[] }, { accessFlags := 25, nameIndex := 448, descriptorIndex := 404, attributes := #[] }, { accessFlags := 25, nameIndex := 450, descriptorIndex := 404, attributes := #[] }, { accessFlags := 25, nameIndex := 452, descriptorIndex := 404, attributes := #[] }, { accessFlags := 25, nameIndex := 454, descriptorIndex := 404, attributes := #[] }, { accessFlags := 25, nameIndex := 456, descriptorIndex := 404, attributes := #[] }, { accessFlags := 25, nameIndex := 458, descriptorIndex := 404, attributes := #[] }, { accessFlags := 25, nameIndex := 460, descriptorIndex := 404, attributes := #[] }, { accessFlags := 24, nameIndex := 462, descriptorIndex := 392, attributes := #[] }, { accessFlags := 25, nameIndex := 464, descriptorIndex := 404, attributes := #[] }, { accessFlags := 25, nameIndex := 465, descriptorIndex := 404, attributes := #[] }, { accessFlags := 25, nameIndex := 466, descriptorIndex := 404, attributes := #[] }, { accessFlags := 25, nameIndex := 467, descriptorIndex := 404, attributes := #[] }, { accessFlags := 25, nameIndex := 468, descriptorIndex := 404, attributes := #[] }, { accessFlags := 25, nameIndex := 469, descriptorIndex := 404, attributes := #[] }, { accessFlags := 25, nameIndex := 470, descriptorIndex := 404, attributes := #[] }, { accessFlags := 25, nameIndex := 471, descriptorIndex := 404, attributes := #[] }, { accessFlags := 25, nameIndex := 472, descriptorIndex := 404, attributes := #[] }, { accessFlags := 25, nameIndex := 473, descriptorIndex := 404, attributes := #[] }, { accessFlags := 25, nameIndex := 474, descriptorIndex := 404, attributes := #[] }, { accessFlags := 25, nameIndex := 475, descriptorIndex := 404, attributes := #[] }, { accessFlags := 25, nameIndex := 476, descriptorIndex := 404, attributes := #[] }, { accessFlags := 25, nameIndex := 477, descriptorIndex := 404, attributes := #[] }, { accessFlags := 25, nameIndex := 478, descriptorIndex := 404, attributes := #[] }, { accessFlags := 25, nameIndex := 479, descriptorIndex := 404, attributes := #[] }, { accessFlags := 25, nameIndex := 480, descriptorIndex := 404, attributes := #[] }, { accessFlags := 25, nameIndex := 481, descriptorIndex := 404, attributes := #[] }, { accessFlags := 25, nameIndex := 482, descriptorIndex := 404, attributes := #[] }, { accessFlags := 25, nameIndex := 484, descriptorIndex := 404, attributes := #[] }, { accessFlags := 25, nameIndex := 485, descriptorIndex := 404, attributes := #[] }, { accessFlags := 25, nameIndex := 486, descriptorIndex := 404, attributes := #[] }, { accessFlags := 25, nameIndex := 487, descriptorIndex := 404, attributes := #[] }, { accessFlags := 25, nameIndex := 488, descriptorIndex := 404, attributes := #[] }, { accessFlags := 25, nameIndex := 489, descriptorIndex := 22, attributes := #[] }, { accessFlags := 25, nameIndex := 490, descriptorIndex := 22, attributes := #[] }, { accessFlags := 25, nameIndex := 492, descriptorIndex := 22, attributes := #[] }, { accessFlags := 25, nameIndex := 493, descriptorIndex := 22, attributes := #[] }, { accessFlags := 25, nameIndex := 495, descriptorIndex := 22, attributes := #[] }, { accessFlags := 25, nameIndex := 496, descriptorIndex := 22, attributes := #[] }, { accessFlags := 25, nameIndex := 497, descriptorIndex := 392, attributes := #[] }, { accessFlags := 25, nameIndex := 498, descriptorIndex := 392, attributes := #[] }, { accessFlags := 25, nameIndex := 499, descriptorIndex := 392, attributes := #[] }, { accessFlags := 18, nameIndex := 21, descriptorIndex := 22, attributes := #[] }, { accessFlags := 26, nameIndex := 501, descriptorIndex := 502, attributes := #[] }, { accessFlags := 25, nameIndex := 505, descriptorIndex := 392, attributes := #[] }, { accessFlags := 25, nameIndex := 506, descriptorIndex := 392, attributes := #[] }, { accessFlags := 4120, nameIndex := 284, descriptorIndex := 285, attributes := #[] }])
  fields := #[{ name := "MIN_RADIX", type := .int, accessFlags := 25, slot := 0, constantValue := 0 }, { name := "MAX_RADIX", type := .int, accessFlags := 25, slot := 1, constantValue := 0 }, { name := "MIN_VALUE", type := .char, accessFlags := 25, slot := 2, constantValue := 0 }, { name := "MAX_VALUE", type := .char, accessFlags := 25, slot := 3, constantValue := 0 }, { name := "TYPE", type := (.object "java/lang/Class"), accessFlags := 25, slot := 4, constantValue := 0 }, { name := "UNASSIGNED", type := .byte, accessFlags := 25, slot := 5, constantValue := 0 }, { name := "UPPERCASE_LETTER", type := .byte, accessFlags := 25, slot := 6, constantValue := 0 }, { name := "LOWERCASE_LETTER", type := .byte, accessFlags := 25, slot := 7, constantValue := 0 }, { name := "TITLECASE_LETTER", type := .byte, accessFlags := 25, slot := 8, constantValue := 0 }, { name := "MODIFIER_LETTER", type := .byte, accessFlags := 25, slot := 9, constantValue := 0 }, { name := "OTHER_LETTER", type := .byte, accessFlags := 25, slot := 10, constantValue := 0 }, { name := "NON_SPACING_MARK", type := .byte, accessFlags := 25, slot := 11, constantValue := 0 }, { name := "ENCLOSING_MARK", type := .byte, accessFlags := 25, slot := 12, constantValue := 0 }, { name := "COMBINING_SPACING_MARK", type := .byte, accessFlags := 25, slot := 13, constantValue := 0 }, { name := "DECIMAL_DIGIT_NUMBER", type := .byte, accessFlags := 25, slot := 14, constantValue := 0 }, { name := "LETTER_NUMBER", type := .byte, accessFlags := 25, slot := 15, constantValue := 0 }, { name := "OTHER_NUMBER", type := .byte, accessFlags := 25, slot := 16, constantValue := 0 }, { name := "SPACE_SEPARATOR", type := .byte, accessFlags := 25, slot := 17, constantValue := 0 }, { name := "LINE_SEPARATOR", type := .byte, accessFlags := 25, slot := 18, constantValue := 0 }, { name := "PARAGRAPH_SEPARATOR", type := .byte, accessFlags := 25, slot := 19, constantValue := 0 }, { name := "CONTROL", type := .byte, accessFlags := 25, slot := 20, constantValue := 0 }, { name := "FORMAT", type := .byte, accessFlags := 25, slot := 21, constantValue := 0 }, { name := "PRIVATE_USE", type := .byte, accessFlags := 25, slot := 22, constantValue := 0 }, { name := "SURROGATE", type := .byte, accessFlags := 25, slot := 23, constantValue := 0 }, { name := "DASH_PUNCTUATION", type := .byte, accessFlags := 25, slot := 24, constantValue := 0 }, { name := "START_PUNCTUATION", type := .byte, accessFlags := 25, slot := 25, constantValue := 0 }, { name := "END_PUNCTUATION", type := .byte, accessFlags := 25, slot := 26, constantValue := 0 }, { name := "CONNECTOR_PUNCTUATION", type := .byte, accessFlags := 25, slot := 27, constantValue := 0 }, { name := "OTHER_PUNCTUATION", type := .byte, accessFlags := 25, slot := 28, constantValue := 0 }, { name := "MATH_SYMBOL", type := .byte, accessFlags := 25, slot := 29, constantValue := 0 }, { name := "CURRENCY_SYMBOL", type := .byte, accessFlags := 25, slot := 30, constantValue := 0 }, { name := "MODIFIER_SYMBOL", type := .byte, accessFlags := 25, slot := 31, constantValue := 0 }, { name := "OTHER_SYMBOL", type := .byte, accessFlags := 25, slot := 32, constantValue := 0 }, { name := "INITIAL_QUOTE_PUNCTUATION", type := .byte, accessFlags := 25, slot := 33, constantValue := 0 }, { name := "FINAL_QUOTE_PUNCTUATION", type := .byte, accessFlags := 25, slot := 34, constantValue := 0 }, { name := "ERROR", type := .int, accessFlags := 24, slot := 35, constantValue := 0 }, { name := "DIRECTIONALITY_UNDEFINED", type := .byte, accessFlags := 25, slot := 36, constantValue := 0 }, { name := "DIRECTIONALITY_LEFT_TO_RIGHT", type := .byte, accessFlags := 25, slot := 37, constantValue := 0 }, { name := "DIRECTIONALITY_RIGHT_TO_LEFT", type := .byte, accessFlags := 25, slot := 38, constantValue := 0 }, { name := "DIRECTIONALITY_RIGHT_TO_LEFT_ARABIC", type := .byte, accessFlags := 25, slot := 39, constantValue := 0 }, { name := "DIRECTIONALITY_EUROPEAN_NUMBER", type := .byte, accessFlags := 25, slot := 40, constantValue := 0 }, { name := "DIRECTIONALITY_EUROPEAN_NUMBER_SEPARATOR", type := .byte, accessFlags := 25, slot := 41, constantValue := 0 }, { name := "DIRECTIONALITY_EUROPEAN_NUMBER_TERMINATOR", type := .byte, accessFlags := 25, slot := 42, constantValue := 0 }, { name := "DIRECTIONALITY_ARABIC_NUMBER", type := .byte, accessFlags := 25, slot := 43, constantValue := 0 }, { name := "DIRECTIONALITY_COMMON_NUMBER_SEPARATOR", type := .byte, accessFlags := 25, slot := 44, constantValue := 0 }, { name := "DIRECTIONALITY_NONSPACING_MARK", type := .byte, accessFlags := 25, slot := 45, constantValue := 0 }, { name := "DIRECTIONALITY_BOUNDARY_NEUTRAL", type := .byte, accessFlags := 25, slot := 46, constantValue := 0 }, { name := "DIRECTIONALITY_PARAGRAPH_SEPARATOR", type := .byte, accessFlags := 25, slot := 47, constantValue := 0 }, { name := "DIRECTIONALITY_SEGMENT_SEPARATOR", type := .byte, accessFlags := 25, slot := 48, constantValue := 0 }, { name := "DIRECTIONALITY_WHITESPACE", type := .byte, accessFlags := 25, slot := 49, constantValue := 0 }, { name := "DIRECTIONALITY_OTHER_NEUTRALS", type := .byte, accessFlags := 25, slot := 50, constantValue := 0 }, { name := "DIRECTIONALITY_LEFT_TO_RIGHT_EMBEDDING", type := .byte, accessFlags := 25, slot := 51, constantValue := 0 }, { name := "DIRECTIONALITY_LEFT_TO_RIGHT_OVERRIDE", type := .byte, accessFlags := 25, slot := 52, constantValue := 0 }, { name := "DIRECTIONALITY_RIGHT_TO_LEFT_EMBEDDING", type := .byte, accessFlags := 25, slot := 53, constantValue := 0 }, { name := "DIRECTIONALITY_RIGHT_TO_LEFT_OVERRIDE", type := .byte, accessFlags := 25, slot := 54, constantValue := 0 }, { name := "DIRECTIONALITY_POP_DIRECTIONAL_FORMAT", type := .byte, accessFlags := 25, slot := 55, constantValue := 0 }, { name := "DIRECTIONALITY_LEFT_TO_RIGHT_ISOLATE", type := .byte, accessFlags := 25, slot := 56, constantValue := 0 }, { name := "DIRECTIONALITY_RIGHT_TO_LEFT_ISOLATE", type := .byte, accessFlags := 25, slot := 57, constantValue := 0 }, { name := "DIRECTIONALITY_FIRST_STRONG_ISOLATE", type := .byte, accessFlags := 25, slot := 58, constantValue := 0 }, { name := "DIRECTIONALITY_POP_DIRECTIONAL_ISOLATE", type := .byte, accessFlags := 25, slot := 59, constantValue := 0 }, { name := "MIN_HIGH_SURROGATE", type := .char, accessFlags := 25, slot := 60, constantValue := 0 }, { name := "MAX_HIGH_SURROGATE", type := .char, accessFlags := 25, slot := 61, constantValue := 0 }, { name := "MIN_LOW_SURROGATE", type := .char, accessFlags := 25, slot := 62, constantValue := 0 }, { name := "MAX_LOW_SURROGATE", type := .char, accessFlags := 25, slot := 63, constantValue := 0 }, { name := "MIN_SURROGATE", type := .char, accessFlags := 25, slot := 64, constantValue := 0 }, { name := "MAX_SURROGATE", type := .char, accessFlags := 25, slot := 65, constantValue := 0 }, { name := "MIN_SUPPLEMENTARY_CODE_POINT", type := .int, accessFlags := 25, slot := 66, constantValue := 0 }, { name := "MIN_CODE_POINT", type := .int, accessFlags := 25, slot := 67, constantValue := 0 }, { name := "MAX_CODE_POINT", type := .int, accessFlags := 25, slot := 68, constantValue := 0 }, { name := "value", type := .char, accessFlags := 18, slot := 0, constantValue := 0 }, { name := "serialVersionUID", type := .long, accessFlags := 26, slot := 69, constantValue := 0 }, { name := "SIZE", type := .int, accessFlags := 25, slot := 70, constantValue := 0 }, { name := "BYTES", type := .int, accessFlags := 25, slot := 71, constantValue := 0 }, { name := "$assertionsDisabled", type := .boolean, accessFlags := 4120, slot := 72, constantValue := 0 }]
  methods := #[k13m0, k13m1]
  instanceTypes := #[.char]
  staticTypes := #[.int, .int, .char, .char, (.object "java/lang/Class"), .byte, .byte, .byte, .byte, .byte, .byte, .byte, .byte, .byte, .byte, .byte, .byte, .byte, .byte, .byte, .byte, .byte, .byte, .byte, .byte, .byte, .byte, .byte, .byte, .byte, .byte, .byte, .byte, .byte, .byte, .int, .byte, .byte, .byte, .byte, .byte, .byte, .byte, .byte, .byte, .byte, .byte, .byte, .byte, .byte, .byte, .byte, .byte, .byte, .byte, .byte, .byte, .byte, .byte, .byte, .char, .char, .char, .char, .char, .char, .int, .int, .int, .long, .int, .int, .boolean]
  resolved := Array.replicate 604 none
  statics := none }

def pool14 : Array CpInfo := pool [(9, u "<init>"), (6, .class_ 18), (1, u "java/lang/Object"), (0, u "()V"), (1, .class_ 23), (1, u "jdk/internal/util/ArraysSupport"), (0, u "LOG2_ARRAY_LONG_INDEX_SCALE"), (0, u "I"), (2, u "U"), (0, u "Ljdk/internal/misc/Unsafe;"), (8, u "BIG_ENDIAN"), (0, u "Z"), (8, u "LOG2_BYTE_BIT_SIZE"), (4, u "LOG2_ARRAY_INT_INDEX_SCALE"), (54, u "JLA"), (0, u "Ljdk/internal/access/JavaLangAccess;"), (11, u "LOG2_ARRAY_BOOLEAN_INDEX_SCALE"), (9, u "LOG2_ARRAY_BYTE_INDEX_SCALE"), (5, u "LOG2_ARRAY_CHAR_INDEX_SCALE"), (5, u "LOG2_ARRAY_SHORT_INDEX_SCALE"), (18, u "LOG2_ARRAY_FLOAT_INDEX_SCALE"), (24, u "LOG2_ARRAY_DOUBLE_INDEX_SCALE"), (89, u "T_BOOLEAN"), (2, u "T_CHAR"), (1, u "T_FLOAT"), (1, u "T_DOUBLE"), (1, u "T_BYTE"), (1, u "T_SHORT"), (1, u "T_INT"), (1, u "T_LONG"), (1, u "SOFT_MAX_ARRAY_LENGTH")] 83

def k14m0 : Method := { name := "<init>", desc := "()V", sig := { parameters := [], returnType := none }, accessFlags := 2, code := none }
/-- jdk/internal/util/ArraysSupport -/
def k14 : Class := { plain "jdk/internal/util/ArraysSupport" (some 0) with
  accessFlags := 33
  interfaces := #[]
  cf := some (fileOf pool14 21 #[] #[{ accessFlags := 2, nameIndex := 9, descriptorIndex := 19, attributes := #[] }] 33 16 #[] #[{ accessFlags := 24, nameIndex := 28, descriptorIndex := 29, attributes := #[] }, { accessFlags := 26, nameIndex := 38, descriptorIndex := 39, attributes := #[] }, { accessFlags := 25, nameIndex := 121, descriptorIndex := 25, attributes := #[] }, { accessFlags := 25, nameIndex := 131, descriptorIndex := 25, attributes := #[] }, { accessFlags := 25, nameIndex := 137, descriptorIndex := 25, attributes := #[] }, { accessFlags := 25, nameIndex := 143, descriptorIndex := 25, attributes := #[] }, { accessFlags := 25, nameIndex := 53, descriptorIndex := 25, attributes := #[] }, { accessFlags := 25, nameIndex := 24, descriptorIndex := 25, attributes := #[] }, { accessFlags := 25, nameIndex := 162, descriptorIndex := 25, attributes := #[] }, { accessFlags := 25, nameIndex := 187, descriptorIndex := 25, attributes := #[] }, { accessFlags := 26, nameIndex := 48, descriptorIndex := 25, attributes := #[] }, { accessFlags := 25, nameIndex := 277, descriptorIndex := 25, attributes := #[] }, { accessFlags := 25, nameIndex := 280, descriptorIndex := 25, attributes := #[] }, { accessFlags := 25, nameIndex := 282, descriptorIndex := 25, attributes := #[] }, { accessFlags := 25, nameIndex := 284, descriptorIndex := 25, attributes := #[] }, { accessFlags := 25, nameIndex := 286, descriptorIndex := 25, attributes := #[] }, { accessFlags := 25, nameIndex := 288, descriptorIndex := 25, attributes := #[] }, { accessFlags := 25, nameIndex := 290, descriptorIndex := 25, attributes := #[] }, { accessFlags := 25, nameIndex := 292, descriptorIndex := 25, attributes := #[] }, { accessFlags := 26, nameIndex := 108, descriptorIndex := 109, attributes := #[] }, { accessFlags := 25, nameIndex := 294, descriptorIndex := 25, attributes := #[] }])
  fields := #[{ name := "U", type := (.object "jdk/internal/misc/Unsafe"), accessFlags := 24, slot := 0, constantValue := 0 }, { name := "BIG_ENDIAN", type := .boolean, accessFlags := 26, slot := 1, constantValue := 0 }, { name := "LOG2_ARRAY_BOOLEAN_INDEX_SCALE", type := .int, accessFlags := 25, slot := 2, constantValue := 0 }, { name := "LOG2_ARRAY_BYTE_INDEX_SCALE", type := .int, accessFlags := 25, slot := 3, constantValue := 0 }, { name := "LOG2_ARRAY_CHAR_INDEX_SCALE", type := .int, accessFlags := 25, slot := 4, constantValue := 0 }, { name := "LOG2_ARRAY_SHORT_INDEX_SCALE", type := .int, accessFlags := 25, slot := 5, constantValue := 0 }, { name := "LOG2_ARRAY_INT_INDEX_SCALE", type := .int, accessFlags := 25, slot := 6, constantValue := 0 }, { name := "LOG2_ARRAY_LONG_INDEX_SCALE", type := .int, accessFlags := 25, slot := 7, constantValue := 0 }, { name := "LOG2_ARRAY_FLOAT_INDEX_SCALE", type := .int, accessFlags := 25, slot := 8, constantValue := 0 }, { name := "LOG2_ARRAY_DOUBLE_INDEX_SCALE", type := .int, accessFlags := 25, slot := 9, constantValue := 0 }, { name := "LOG2_BYTE_BIT_SIZE", type := .int, accessFlags := 26, slot := 10, constantValue := 0 }, { name := "T_BOOLEAN", type := .int, accessFlags := 25, slot := 11, constantValue := 0 }, { name := "T_CHAR", type := .int, accessFlags := 25, slot := 12, constantValue := 0 }, { name := "T_FLOAT", type := .int, accessFlags := 25, slot := 13, constantValue := 0 }, { name := "T_DOUBLE", type := .int, accessFlags := 25, slot := 14, constantValue := 0 }, { name := "T_BYTE", type := .int, accessFlags := 25, slot := 15, constantValue := 0 }, { name := "T_SHORT", type := .int, accessFlags := 25, slot := 16, constantValue := 0 }, { name := "T_INT", type := .int, accessFlags := 25, slot := 17, constantValue := 0 }, { name := "T_LONG", type := .int, accessFlags := 25, slot := 18, constantValue := 0 }, { name := "JLA", type := (.object "jdk/internal/access/JavaLangAccess"), accessFlags := 26, slot := 19, constantValue := 0 }, { name := "SOFT_MAX_ARRAY_LENGTH", type := .int, accessFlags := 25, slot := 20, constantValue := 0 }]
  methods := #[k14m0]
  instanceTypes := #[]
  staticTypes := #[(.object "jdk/internal/misc/Unsafe"), .boolean, .int, .int, .int, .int, .int, .int, .int, .int, .int, .int, .int, .int, .int, .int, .int, .int, .int, (.object "jdk/internal/access/JavaLangAccess"), .int]
  resolved := Array.replicate 378 none
  statics := none }

def pool15 : Array CpInfo := pool [(1, u "java/lang/Cloneable"), (0, .class_ 1), (0, u "java/lang/Object"), (0, .class_ 3)] 3

/-- java/lang/Cloneable -/
def k15 : Class := { plain "java/lang/Cloneable" (some 0) with
  accessFlags := 1537
  interfaces := #[]
  cf := some (fileOf pool15 2 #[] #[] 1537 4 #[] #[])
  fields := #[]
  methods := #[]
  instanceTypes := #[]
  staticTypes := #[]
  resolved := Array.replicate 8 none
  statics := none }

/-- the primitive byte -/
def k16 : Class := { plain "byte" none with kind := .primitive 'B', accessFlags := 0x411 }
/-- [B -/
def k17 : Class := { plain "[B" (some 0) with kind := .array 16 .byte, interfaces := #[15, 3], accessFlags := 1041 }

/-- the primitive char -/
def k18 : Class := { plain "char" none with kind := .primitive 'C', accessFlags := 0x411 }
/-- [C -/
def k19 : Class := { plain "[C" (some 0) with kind := .array 18 .char, interfaces := #[15, 3], accessFlags := 1041 }

/-- the primitive int -/
def k20 : Class := { plain "int" none with kind := .primitive 'I', accessFlags := 0x411 }
/-- [I -/
def k21 : Class := { plain "[I" (some 0) with kind := .array 20 .int, interfaces := #[15, 3], accessFlags := 1041 }

def heap : Heap := #[{ cls := 8, slots := #[.long 0, .int 1, .null, .int 0, .null, .int 0, .int 0], vm := .statics 8 },
  { cls := 12, slots := #[.null, .null, .null], vm := .statics 12 }]
def classes : Array Class := #[k0, k1, k2, k3, k4, k5, k6, k7, k8, k9, k10, k11, k12, k13, k14, k15, k16, k17, k18, k19, k20, k21]
def interned : List (Array UInt16 × Addr) := []
def slotsUsed : Nat := 10
def theMethod : MethodId := ⟨1, 1⟩
def args0 : Array Value := #[.int 65, .int 66, .int 67, .int 65, .int 66, .int 67]
def aboutOver (below : List Frame) : State where
  vm := { classes := classes, interned := interned.toArray }
  heap := heap
  slotsUsed := slotsUsed
  threads := #[{ frames := .invoking theMethod args0 :: below }]
def below0 : List Frame := [.native { method := ⟨0, 0⟩, args := #[] }]
def about1 : State := aboutOver below0
def p0 : Program := .bare "" "" ""
def e0 : Env := launch0.env 0 0 0
theorem w_frames : about1.frames = Frame.invoking theMethod args0 :: below0 := rfl
set_option maxRecDepth 65536 in
theorem w_args : argsFit about1.vm theMethod args0 = true := by decide +kernel
set_option maxRecDepth 65536 in
theorem w_heap : heapFits about1 = true := by decide +kernel
set_option maxRecDepth 65536 in
theorem w_runnable : about1.curStatus? = some .runnable := by decide +kernel
set_option maxRecDepth 65536 in
theorem w_alone : about1.alone = true := by decide +kernel
set_option maxRecDepth 65536 in
theorem w_named : about1.methodNamed? x = some theMethod := by decide +kernel
set_option maxRecDepth 65536 in
theorem w_hears : about1.hears theMethod below0 = true := by decide +kernel
set_option maxRecDepth 65536 in
theorem w_ripe : about1.ripe theMethod args0 below0 = true := by decide +kernel
theorem w_running : about1.status = .running := rfl
set_option maxRecDepth 65536 in
theorem w_room : about1.hasRoom e0.platform room_1 = true :=
  launch0.hasRoom_least _ room_1 (by decide +kernel) (by decide +kernel) (by decide +kernel) (by decide +kernel) (by decide +kernel) (by decide +kernel)
theorem allAtoms_all (ts : List Jvm.Cond) (a : Array Jvm.Value) (st : Jvm.State) : (allAtoms ts).before a st = ts.all (fun c => c.before a st) := by
  induction ts with
  | nil => rfl
  | cons c t ih =>
    show (Jvm.Cond.and c (allAtoms t)).before a st = _
    rw [Jvm.Cond.before_and, ih, List.all_cons]
def words1 : List Jvm.Cond := Jvm.Cond.code x code maxLocals ret :: tables_1
/-- a 'code' word, met by the world's own term for the bytes: nothing is compared byte by byte -/
theorem code_word {y : MethodName} {bytes : ByteArray} {mx : Nat} {rt : Option FieldType} {a : Array Value} {s : State} {m : MethodId} {meth : Method} {c : Code} (h1 : s.methodNamed? y = some m) (h2 : s.vm.method? m = some meth) (h3 : meth.code = some c) (h4 : c.code = bytes)
    (h5 : (c.maxLocals == mx && c.exceptionTable.isEmpty && decide (c.maxStack ≤ mostOperands) && decide (meth.sig.returnType = rt) && !meth.locks && decide (parseMethodDescriptor y.desc = some meth.sig)) = true) : (Jvm.Cond.code y bytes mx rt).before a s = true := by
  simp only [Bool.and_eq_true, beq_iff_eq, Bool.not_eq_true', decide_eq_true_eq] at h5
  obtain ⟨⟨⟨⟨⟨g1, g2⟩, g3⟩, g4⟩, g5⟩, g6⟩ := h5
  simp [Cond.before, Cond.holds, Cond.value, h1, h2, h3, h4, g1, g2, g3, g4, g5, g6]
def isCode : Jvm.Cond → Bool
  | .code _ _ _ _ => true
  | _ => false
theorem all_split {L : List Jvm.Cond} {P : Jvm.Cond → Bool} (h1 : L.all (fun c => isCode c || P c) = true) (h2 : ∀ c ∈ L.filter isCode, P c = true) : L.all P = true := by
  refine List.all_eq_true.mpr fun c hc => ?_
  have h := List.all_eq_true.mp h1 c hc
  rcases Bool.eq_false_or_eq_true (isCode c) with hi | hi
  · exact h2 c (List.mem_filter.mpr ⟨hc, hi⟩)
  · simpa [hi] using h
set_option maxRecDepth 65536 in
theorem w_c0 : (Jvm.Cond.code x code maxLocals ret).before args0 about1 = true := code_word (m := ⟨1, 1⟩) (meth := k1m1) (c := k1c1) (by decide +kernel) rfl rfl rfl (by decide +kernel)
set_option maxRecDepth 65536 in
theorem w_c1 : (Jvm.Cond.code ({ cls := "com/example/nanshe/nanshe/engine/RequestEqualsPinLaw", name := "name", desc := "(I)Ljava/lang/String;" } : Jvm.MethodName) method_5_code (2 : Nat) (Option.some (Jvm.ClassFile.FieldType.object "java/lang/String"))).before args0 about1 = true := code_word (m := ⟨1, 4⟩) (meth := k1m4) (c := k1c4) (by decide +kernel) rfl rfl rfl (by decide +kernel)
set_option maxRecDepth 65536 in
theorem w_c2 : (Jvm.Cond.code ({ cls := "com/example/nanshe/nanshe/engine/RequestEqualsPinLaw", name := "len", desc := "(I)I" } : Jvm.MethodName) method_4_code (1 : Nat) (Option.some Jvm.ClassFile.FieldType.int)).before args0 about1 = true := code_word (m := ⟨1, 3⟩) (meth := k1m3) (c := k1c3) (by decide +kernel) rfl rfl rfl (by decide +kernel)
set_option maxRecDepth 65536 in
theorem w_c3 : (Jvm.Cond.code ({ cls := "com/example/nanshe/nanshe/engine/RequestEqualsPinLaw", name := "safe", desc := "(I)C" } : Jvm.MethodName) method_3_code (2 : Nat) (Option.some Jvm.ClassFile.FieldType.char)).before args0 about1 = true := code_word (m := ⟨1, 2⟩) (meth := k1m2) (c := k1c2) (by decide +kernel) rfl rfl rfl (by decide +kernel)
set_option maxRecDepth 65536 in
theorem w_c4 : (Jvm.Cond.code ({ cls := "java/lang/String", name := "<init>", desc := "([C)V" } : Jvm.MethodName) jdk_42_method_3_code (2 : Nat) (Option.none : Option Jvm.ClassFile.FieldType)).before args0 about1 = true := code_word (m := ⟨8, 1⟩) (meth := k8m1) (c := k8c1) (by decide +kernel) rfl rfl rfl (by decide +kernel)
set_option maxRecDepth 65536 in
theorem w_c5 : (Jvm.Cond.code ({ cls := "java/lang/String", name := "<init>", desc := "([CIILjava/lang/Void;)V" } : Jvm.MethodName) jdk_42_method_149_code (6 : Nat) (Option.none : Option Jvm.ClassFile.FieldType)).before args0 about1 = true := code_word (m := ⟨8, 6⟩) (meth := k8m6) (c := k8c6) (by decide +kernel) rfl rfl rfl (by decide +kernel)
set_option maxRecDepth 65536 in
theorem w_c6 : (Jvm.Cond.code ({ cls := "java/lang/Object", name := "<init>", desc := "()V" } : Jvm.MethodName) object_method_1_code (1 : Nat) (Option.none : Option Jvm.ClassFile.FieldType)).before args0 about1 = true := code_word (m := ⟨0, 0⟩) (meth := k0m0) (c := k0c0) (by decide +kernel) rfl rfl rfl (by decide +kernel)
set_option maxRecDepth 65536 in
theorem w_c7 : (Jvm.Cond.code ({ cls := "java/lang/StringUTF16", name := "compress", desc := "([CII)[B" } : Jvm.MethodName) jdk_52_method_16_code (6 : Nat) (Option.some (Jvm.ClassFile.FieldType.array Jvm.ClassFile.FieldType.byte))).before args0 about1 = true := code_word (m := ⟨9, 2⟩) (meth := k9m2) (c := k9c2) (by decide +kernel) rfl rfl rfl (by decide +kernel)
set_option maxRecDepth 65536 in
theorem w_c8 : (Jvm.Cond.code ({ cls := "java/lang/StringUTF16", name := "compress", desc := "([CI[BII)I" } : Jvm.MethodName) jdk_52_method_21_code (7 : Nat) (Option.some Jvm.ClassFile.FieldType.int)).before args0 about1 = true := code_word (m := ⟨9, 3⟩) (meth := k9m3) (c := k9c3) (by decide +kernel) rfl rfl rfl (by decide +kernel)
set_option maxRecDepth 65536 in
theorem w_c9 : (Jvm.Cond.code ({ cls := "java/lang/StringUTF16", name := "coderFromArrayLen", desc := "([BI)B" } : Jvm.MethodName) jdk_52_method_15_code (2 : Nat) (Option.some Jvm.ClassFile.FieldType.byte)).before args0 about1 = true := code_word (m := ⟨9, 1⟩) (meth := k9m1) (c := k9c1) (by decide +kernel) rfl rfl rfl (by decide +kernel)
set_option maxRecDepth 65536 in
theorem w_c10 : (Jvm.Cond.code ({ cls := "com/example/nanshe/nanshe/engine/Request", name := "<init>", desc := "(Ljava/lang/String;Ljava/lang/String;Ljava/lang/String;)V" } : Jvm.MethodName) prog_7_method_1_code (4 : Nat) (Option.none : Option Jvm.ClassFile.FieldType)).before args0 about1 = true := code_word (m := ⟨2, 0⟩) (meth := k2m0) (c := k2c0) (by decide +kernel) rfl rfl rfl (by decide +kernel)
set_option maxRecDepth 65536 in
theorem w_c11 : (Jvm.Cond.code ({ cls := "com/example/nanshe/nanshe/engine/Request", name := "checked", desc := "(Ljava/lang/String;Ljava/lang/String;)Ljava/lang/String;" } : Jvm.MethodName) prog_7_method_11_code (2 : Nat) (Option.some (Jvm.ClassFile.FieldType.object "java/lang/String"))).before args0 about1 = true := code_word (m := ⟨2, 4⟩) (meth := k2m4) (c := k2c4) (by decide +kernel) rfl rfl rfl (by decide +kernel)
set_option maxRecDepth 65536 in
theorem w_c12 : (Jvm.Cond.code ({ cls := "java/util/Objects", name := "requireNonNull", desc := "(Ljava/lang/Object;Ljava/lang/String;)Ljava/lang/Object;" } : Jvm.MethodName) jdk_31_method_11_code (2 : Nat) (Option.some (Jvm.ClassFile.FieldType.object "java/lang/Object"))).before args0 about1 = true := code_word (m := ⟨10, 1⟩) (meth := k10m1) (c := k10c1) (by decide +kernel) rfl rfl rfl (by decide +kernel)
set_option maxRecDepth 65536 in
theorem w_c13 : (Jvm.Cond.code ({ cls := "com/example/nanshe/nanshe/engine/Request", name := "isName", desc := "(Ljava/lang/String;)Z" } : Jvm.MethodName) prog_7_method_8_code (1 : Nat) (Option.some Jvm.ClassFile.FieldType.boolean)).before args0 about1 = true := code_word (m := ⟨2, 2⟩) (meth := k2m2) (c := k2c2) (by decide +kernel) rfl rfl rfl (by decide +kernel)
set_option maxRecDepth 65536 in
theorem w_c14 : (Jvm.Cond.code ({ cls := "java/lang/String", name := "isEmpty", desc := "()Z" } : Jvm.MethodName) jdk_42_method_55_code (1 : Nat) (Option.some Jvm.ClassFile.FieldType.boolean)).before args0 about1 = true := code_word (m := ⟨8, 3⟩) (meth := k8m3) (c := k8c3) (by decide +kernel) rfl rfl rfl (by decide +kernel)
set_option maxRecDepth 65536 in
theorem w_c15 : (Jvm.Cond.code ({ cls := "com/example/nanshe/nanshe/engine/Request", name := "breakIn", desc := "(Ljava/lang/String;)I" } : Jvm.MethodName) prog_7_method_10_code (3 : Nat) (Option.some Jvm.ClassFile.FieldType.int)).before args0 about1 = true := code_word (m := ⟨2, 3⟩) (meth := k2m3) (c := k2c3) (by decide +kernel) rfl rfl rfl (by decide +kernel)
set_option maxRecDepth 65536 in
theorem w_c16 : (Jvm.Cond.code ({ cls := "java/lang/String", name := "length", desc := "()I" } : Jvm.MethodName) jdk_42_method_54_code (1 : Nat) (Option.some Jvm.ClassFile.FieldType.int)).before args0 about1 = true := code_word (m := ⟨8, 2⟩) (meth := k8m2) (c := k8c2) (by decide +kernel) rfl rfl rfl (by decide +kernel)
set_option maxRecDepth 65536 in
theorem w_c17 : (Jvm.Cond.code ({ cls := "java/lang/String", name := "coder", desc := "()B" } : Jvm.MethodName) jdk_42_method_152_code (1 : Nat) (Option.some Jvm.ClassFile.FieldType.byte)).before args0 about1 = true := code_word (m := ⟨8, 7⟩) (meth := k8m7) (c := k8c7) (by decide +kernel) rfl rfl rfl (by decide +kernel)
set_option maxRecDepth 65536 in
theorem w_c18 : (Jvm.Cond.code ({ cls := "java/lang/String", name := "charAt", desc := "(I)C" } : Jvm.MethodName) jdk_42_method_56_code (2 : Nat) (Option.some Jvm.ClassFile.FieldType.char)).before args0 about1 = true := code_word (m := ⟨8, 4⟩) (meth := k8m4) (c := k8c4) (by decide +kernel) rfl rfl rfl (by decide +kernel)
set_option maxRecDepth 65536 in
theorem w_c19 : (Jvm.Cond.code ({ cls := "java/lang/String", name := "isLatin1", desc := "()Z" } : Jvm.MethodName) jdk_42_method_154_code (1 : Nat) (Option.some Jvm.ClassFile.FieldType.boolean)).before args0 about1 = true := code_word (m := ⟨8, 8⟩) (meth := k8m8) (c := k8c8) (by decide +kernel) rfl rfl rfl (by decide +kernel)
set_option maxRecDepth 65536 in
theorem w_c20 : (Jvm.Cond.code ({ cls := "java/lang/StringLatin1", name := "charAt", desc := "([BI)C" } : Jvm.MethodName) jdk_43_method_2_code (2 : Nat) (Option.some Jvm.ClassFile.FieldType.char)).before args0 about1 = true := code_word (m := ⟨11, 1⟩) (meth := k11m1) (c := k11c1) (by decide +kernel) rfl rfl rfl (by decide +kernel)
set_option maxRecDepth 65536 in
theorem w_c21 : (Jvm.Cond.code ({ cls := "java/lang/String", name := "checkIndex", desc := "(II)V" } : Jvm.MethodName) jdk_42_method_155_code (2 : Nat) (Option.none : Option Jvm.ClassFile.FieldType)).before args0 about1 = true := code_word (m := ⟨8, 9⟩) (meth := k8m9) (c := k8c9) (by decide +kernel) rfl rfl rfl (by decide +kernel)
set_option maxRecDepth 65536 in
theorem w_c22 : (Jvm.Cond.code ({ cls := "jdk/internal/util/Preconditions", name := "checkIndex", desc := "(IILjava/util/function/BiFunction;)I" } : Jvm.MethodName) jdk_41_method_11_code (3 : Nat) (Option.some Jvm.ClassFile.FieldType.int)).before args0 about1 = true := code_word (m := ⟨12, 1⟩) (meth := k12m1) (c := k12c1) (by decide +kernel) rfl rfl rfl (by decide +kernel)
set_option maxRecDepth 65536 in
theorem w_c23 : (Jvm.Cond.code ({ cls := "com/example/nanshe/nanshe/engine/Request", name := "unicode", desc := "(Ljava/lang/String;Ljava/lang/String;)Ljava/lang/String;" } : Jvm.MethodName) prog_7_method_13_code (7 : Nat) (Option.some (Jvm.ClassFile.FieldType.object "java/lang/String"))).before args0 about1 = true := code_word (m := ⟨2, 5⟩) (meth := k2m5) (c := k2c5) (by decide +kernel) rfl rfl rfl (by decide +kernel)
set_option maxRecDepth 65536 in
theorem w_c24 : (Jvm.Cond.code ({ cls := "java/lang/Character", name := "isHighSurrogate", desc := "(C)Z" } : Jvm.MethodName) jdk_89_method_14_code (1 : Nat) (Option.some Jvm.ClassFile.FieldType.boolean)).before args0 about1 = true := code_word (m := ⟨13, 0⟩) (meth := k13m0) (c := k13c0) (by decide +kernel) rfl rfl rfl (by decide +kernel)
set_option maxRecDepth 65536 in
theorem w_c25 : (Jvm.Cond.code ({ cls := "java/lang/Character", name := "isLowSurrogate", desc := "(C)Z" } : Jvm.MethodName) jdk_89_method_15_code (1 : Nat) (Option.some Jvm.ClassFile.FieldType.boolean)).before args0 about1 = true := code_word (m := ⟨13, 1⟩) (meth := k13m1) (c := k13c1) (by decide +kernel) rfl rfl rfl (by decide +kernel)
set_option maxRecDepth 65536 in
theorem w_c26 : (Jvm.Cond.code ({ cls := "com/example/nanshe/nanshe/engine/RequestEqualsPinLaw", name := "same", desc := "(II)Z" } : Jvm.MethodName) method_6_code (2 : Nat) (Option.some Jvm.ClassFile.FieldType.boolean)).before args0 about1 = true := code_word (m := ⟨1, 5⟩) (meth := k1m5) (c := k1c5) (by decide +kernel) rfl rfl rfl (by decide +kernel)
set_option maxRecDepth 65536 in
theorem w_c27 : (Jvm.Cond.code ({ cls := "com/example/nanshe/nanshe/engine/Request", name := "equals", desc := "(Ljava/lang/Object;)Z" } : Jvm.MethodName) prog_7_method_5_code (3 : Nat) (Option.some Jvm.ClassFile.FieldType.boolean)).before args0 about1 = true := code_word (m := ⟨2, 1⟩) (meth := k2m1) (c := k2c1) (by decide +kernel) rfl rfl rfl (by decide +kernel)
set_option maxRecDepth 65536 in
theorem w_c28 : (Jvm.Cond.code ({ cls := "java/lang/String", name := "equals", desc := "(Ljava/lang/Object;)Z" } : Jvm.MethodName) jdk_42_method_66_code (3 : Nat) (Option.some Jvm.ClassFile.FieldType.boolean)).before args0 about1 = true := code_word (m := ⟨8, 5⟩) (meth := k8m5) (c := k8c5) (by decide +kernel) rfl rfl rfl (by decide +kernel)
set_option maxRecDepth 65536 in
theorem w_c29 : (Jvm.Cond.code ({ cls := "java/lang/StringLatin1", name := "equals", desc := "([B[B)Z" } : Jvm.MethodName) jdk_43_method_13_code (3 : Nat) (Option.some Jvm.ClassFile.FieldType.boolean)).before args0 about1 = true := code_word (m := ⟨11, 2⟩) (meth := k11m2) (c := k11c2) (by decide +kernel) rfl rfl rfl (by decide +kernel)
def codes1 : List Jvm.Cond := [Jvm.Cond.code x code maxLocals ret, Jvm.Cond.code ({ cls := "com/example/nanshe/nanshe/engine/RequestEqualsPinLaw", name := "name", desc := "(I)Ljava/lang/String;" } : Jvm.MethodName) method_5_code (2 : Nat) (Option.some (Jvm.ClassFile.FieldType.object "java/lang/String")), Jvm.Cond.code ({ cls := "com/example/nanshe/nanshe/engine/RequestEqualsPinLaw", name := "len", desc := "(I)I" } : Jvm.MethodName) method_4_code (1 : Nat) (Option.some Jvm.ClassFile.FieldType.int), Jvm.Cond.code ({ cls := "com/example/nanshe/nanshe/engine/RequestEqualsPinLaw", name := "safe", desc := "(I)C" } : Jvm.MethodName) method_3_code (2 : Nat) (Option.some Jvm.ClassFile.FieldType.char), Jvm.Cond.code ({ cls := "java/lang/String", name := "<init>", desc := "([C)V" } : Jvm.MethodName) jdk_42_method_3_code (2 : Nat) (Option.none : Option Jvm.ClassFile.FieldType), Jvm.Cond.code ({ cls := "java/lang/String", name := "<init>", desc := "([CIILjava/lang/Void;)V" } : Jvm.MethodName) jdk_42_method_149_code (6 : Nat) (Option.none : Option Jvm.ClassFile.FieldType), Jvm.Cond.code ({ cls := "java/lang/Object", name := "<init>", desc := "()V" } : Jvm.MethodName) object_method_1_code (1 : Nat) (Option.none : Option Jvm.ClassFile.FieldType), Jvm.Cond.code ({ cls := "java/lang/StringUTF16", name := "compress", desc := "([CII)[B" } : Jvm.MethodName) jdk_52_method_16_code (6 : Nat) (Option.some (Jvm.ClassFile.FieldType.array Jvm.ClassFile.FieldType.byte)), Jvm.Cond.code ({ cls := "java/lang/StringUTF16", name := "compress", desc := "([CI[BII)I" } : Jvm.MethodName) jdk_52_method_21_code (7 : Nat) (Option.some Jvm.ClassFile.FieldType.int), Jvm.Cond.code ({ cls := "java/lang/StringUTF16", name := "coderFromArrayLen", desc := "([BI)B" } : Jvm.MethodName) jdk_52_method_15_code (2 : Nat) (Option.some Jvm.ClassFile.FieldType.byte), Jvm.Cond.code ({ cls := "com/example/nanshe/nanshe/engine/Request", name := "<init>", desc := "(Ljava/lang/String;Ljava/lang/String;Ljava/lang/String;)V" } : Jvm.MethodName) prog_7_method_1_code (4 : Nat) (Option.none : Option Jvm.ClassFile.FieldType), Jvm.Cond.code ({ cls := "com/example/nanshe/nanshe/engine/Request", name := "checked", desc := "(Ljava/lang/String;Ljava/lang/String;)Ljava/lang/String;" } : Jvm.MethodName) prog_7_method_11_code (2 : Nat) (Option.some (Jvm.ClassFile.FieldType.object "java/lang/String")), Jvm.Cond.code ({ cls := "java/util/Objects", name := "requireNonNull", desc := "(Ljava/lang/Object;Ljava/lang/String;)Ljava/lang/Object;" } : Jvm.MethodName) jdk_31_method_11_code (2 : Nat) (Option.some (Jvm.ClassFile.FieldType.object "java/lang/Object")), Jvm.Cond.code ({ cls := "com/example/nanshe/nanshe/engine/Request", name := "isName", desc := "(Ljava/lang/String;)Z" } : Jvm.MethodName) prog_7_method_8_code (1 : Nat) (Option.some Jvm.ClassFile.FieldType.boolean), Jvm.Cond.code ({ cls := "java/lang/String", name := "isEmpty", desc := "()Z" } : Jvm.MethodName) jdk_42_method_55_code (1 : Nat) (Option.some Jvm.ClassFile.FieldType.boolean), Jvm.Cond.code ({ cls := "com/example/nanshe/nanshe/engine/Request", name := "breakIn", desc := "(Ljava/lang/String;)I" } : Jvm.MethodName) prog_7_method_10_code (3 : Nat) (Option.some Jvm.ClassFile.FieldType.int), Jvm.Cond.code ({ cls := "java/lang/String", name := "length", desc := "()I" } : Jvm.MethodName) jdk_42_method_54_code (1 : Nat) (Option.some Jvm.ClassFile.FieldType.int), Jvm.Cond.code ({ cls := "java/lang/String", name := "coder", desc := "()B" } : Jvm.MethodName) jdk_42_method_152_code (1 : Nat) (Option.some Jvm.ClassFile.FieldType.byte), Jvm.Cond.code ({ cls := "java/lang/String", name := "charAt", desc := "(I)C" } : Jvm.MethodName) jdk_42_method_56_code (2 : Nat) (Option.some Jvm.ClassFile.FieldType.char), Jvm.Cond.code ({ cls := "java/lang/String", name := "isLatin1", desc := "()Z" } : Jvm.MethodName) jdk_42_method_154_code (1 : Nat) (Option.some Jvm.ClassFile.FieldType.boolean), Jvm.Cond.code ({ cls := "java/lang/StringLatin1", name := "charAt", desc := "([BI)C" } : Jvm.MethodName) jdk_43_method_2_code (2 : Nat) (Option.some Jvm.ClassFile.FieldType.char), Jvm.Cond.code ({ cls := "java/lang/String", name := "checkIndex", desc := "(II)V" } : Jvm.MethodName) jdk_42_method_155_code (2 : Nat) (Option.none : Option Jvm.ClassFile.FieldType), Jvm.Cond.code ({ cls := "jdk/internal/util/Preconditions", name := "checkIndex", desc := "(IILjava/util/function/BiFunction;)I" } : Jvm.MethodName) jdk_41_method_11_code (3 : Nat) (Option.some Jvm.ClassFile.FieldType.int), Jvm.Cond.code ({ cls := "com/example/nanshe/nanshe/engine/Request", name := "unicode", desc := "(Ljava/lang/String;Ljava/lang/String;)Ljava/lang/String;" } : Jvm.MethodName) prog_7_method_13_code (7 : Nat) (Option.some (Jvm.ClassFile.FieldType.object "java/lang/String")), Jvm.Cond.code ({ cls := "java/lang/Character", name := "isHighSurrogate", desc := "(C)Z" } : Jvm.MethodName) jdk_89_method_14_code (1 : Nat) (Option.some Jvm.ClassFile.FieldType.boolean), Jvm.Cond.code ({ cls := "java/lang/Character", name := "isLowSurrogate", desc := "(C)Z" } : Jvm.MethodName) jdk_89_method_15_code (1 : Nat) (Option.some Jvm.ClassFile.FieldType.boolean), Jvm.Cond.code ({ cls := "com/example/nanshe/nanshe/engine/RequestEqualsPinLaw", name := "same", desc := "(II)Z" } : Jvm.MethodName) method_6_code (2 : Nat) (Option.some Jvm.ClassFile.FieldType.boolean), Jvm.Cond.code ({ cls := "com/example/nanshe/nanshe/engine/Request", name := "equals", desc := "(Ljava/lang/Object;)Z" } : Jvm.MethodName) prog_7_method_5_code (3 : Nat) (Option.some Jvm.ClassFile.FieldType.boolean), Jvm.Cond.code ({ cls := "java/lang/String", name := "equals", desc := "(Ljava/lang/Object;)Z" } : Jvm.MethodName) jdk_42_method_66_code (3 : Nat) (Option.some Jvm.ClassFile.FieldType.boolean), Jvm.Cond.code ({ cls := "java/lang/StringLatin1", name := "equals", desc := "([B[B)Z" } : Jvm.MethodName) jdk_43_method_13_code (3 : Nat) (Option.some Jvm.ClassFile.FieldType.boolean)]
set_option maxRecDepth 65536 in
theorem codes_eq : words1.filter isCode = codes1 := rfl
theorem w_codes : ∀ c ∈ words1.filter isCode, c.before args0 about1 = true := by
  rw [codes_eq]
  intro c hc
  simp only [codes1, List.mem_cons, List.not_mem_nil, or_false] at hc
  rcases hc with rfl | rfl | rfl | rfl | rfl | rfl | rfl | rfl | rfl | rfl | rfl | rfl | rfl | rfl | rfl | rfl | rfl | rfl | rfl | rfl | rfl | rfl | rfl | rfl | rfl | rfl | rfl | rfl | rfl | rfl
  · exact w_c0
  · exact w_c1
  · exact w_c2
  · exact w_c3
  · exact w_c4
  · exact w_c5
  · exact w_c6
  · exact w_c7
  · exact w_c8
  · exact w_c9
  · exact w_c10
  · exact w_c11
  · exact w_c12
  · exact w_c13
  · exact w_c14
  · exact w_c15
  · exact w_c16
  · exact w_c17
  · exact w_c18
  · exact w_c19
  · exact w_c20
  · exact w_c21
  · exact w_c22
  · exact w_c23
  · exact w_c24
  · exact w_c25
  · exact w_c26
  · exact w_c27
  · exact w_c28
  · exact w_c29
set_option maxRecDepth 65536 in
theorem w_t1 : (words1.take 24).all (fun c => isCode c || c.before args0 about1) = true := by decide +kernel
set_option maxRecDepth 65536 in
theorem w_t2 : ((words1.drop 24).take 24).all (fun c => isCode c || c.before args0 about1) = true := by decide +kernel
set_option maxRecDepth 65536 in
theorem w_t3 : (((words1.drop 24).drop 24).take 24).all (fun c => isCode c || c.before args0 about1) = true := by decide +kernel
set_option maxRecDepth 65536 in
theorem w_t4 : ((((words1.drop 24).drop 24).drop 24).take 24).all (fun c => isCode c || c.before args0 about1) = true := by decide +kernel
set_option maxRecDepth 65536 in
theorem w_t5 : (((((words1.drop 24).drop 24).drop 24).drop 24).take 24).all (fun c => isCode c || c.before args0 about1) = true := by decide +kernel
set_option maxRecDepth 65536 in
theorem w_t6 : (((((words1.drop 24).drop 24).drop 24).drop 24).drop 24).all (fun c => isCode c || c.before args0 about1) = true := by decide +kernel
theorem w_tables : (allAtoms (Jvm.Cond.code x code maxLocals ret :: tables_1)).before args0 about1 = true := by
  rw [allAtoms_all]
  show words1.all (fun c => c.before args0 about1) = true
  refine all_split ?_ w_codes
  rw [← List.take_append_drop 24 words1, List.all_append, w_t1, ← List.take_append_drop 24 (words1.drop 24), List.all_append, w_t2, ← List.take_append_drop 24 ((words1.drop 24).drop 24), List.all_append, w_t3, ← List.take_append_drop 24 (((words1.drop 24).drop 24).drop 24), List.all_append, w_t4, ← List.take_append_drop 24 ((((words1.drop 24).drop 24).drop 24).drop 24), List.all_append, w_t5, w_t6]
  rfl
set_option maxRecDepth 65536 in
theorem w_rest : rest_1_c.before args0 about1 = true := by decide +kernel
set_option maxRecDepth 65536 in
theorem w_case : (Jvm.Cond.and given_1 narrow_1).before args0 about1 = true := by decide +kernel
theorem w_applies : (headSpec (Jvm.Cond.code x code maxLocals ret :: tables_1) room_1).applies x e0.platform about1 = true :=
  (Spec.applies_iff w_frames).mpr ⟨w_running, w_runnable, w_alone, w_named, w_hears, w_ripe, w_room, w_tables⟩
theorem atStart : AtStart classFile x code maxLocals ret World_1 tables_1 room_1 Calls_1 rest_1 Pre_1 launch0 p0 e0 about1 theMethod args0 below0 :=
  ⟨lists_1, trivial, launch0.admits_env _ _ _, launch0.least_env, fairChoices_fair.cas, fairChoices_fair.clock, w_frames, w_args, w_heap, w_applies, trivial, w_rest, w_case⟩
end start1
theorem witness_1 : WitnessClaimed_1 := ⟨start1.p0, start1.e0, start1.about1, start1.theMethod, start1.args0, start1.below0, start1.atStart⟩
end Jvm.Pilot.@@N@@
