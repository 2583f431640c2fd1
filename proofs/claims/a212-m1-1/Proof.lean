import JvmDerived
import JvmDerived.Pilot.@@N@@Statement
import JvmDerived.Pilot.@@N@@Code
set_option linter.unusedVariables false
set_option linter.unusedSimpArgs false
namespace Jvm.RoadKit
open Sem ClassFile Op Lib Jvm.Stand Jvm.Free Jvm.LawKit
section New
variable {p : Program} {l : Launch} {e : Env} {R : Room} {s : State} {m : MethodId} {args : Array Value} {below : List Frame} {meth : Method} {c : Code} {T : State} {locs : List Loc} {cells slots : Nat}
theorem retI (X : Stand p l e R s m args below meth c T locs cells slots) (hx : p.tables.exec = Jvm.exec) {pc : Nat} {Ls : Array Slot} {z : Int32} {rest : List Value} (hret : meth.sig.returnType = some .int) (hd : decode c.code pc = .ok (.ireturn, 1)) {fs : List Frame}
    (hl : ∀ (f : JFrame) (acts : List Action), f.method = m → f.locked = none → f.entered = [] → (doReturn e (T.setTop f) acts (some (.int z))).1 = T.setFrames fs) : Steps p.tables e below (T.setTop (mkF m pc Ls (.int z :: rest))) (T.setFrames fs) := by
  have hm' : T.vm.method? m = some meth := X.method'
  have hn : narrow .int (.int z) = .int z := rfl
  show Steps p.tables e below (T.setTop { method := m, pc := pc, locals := Ls, stack := _ :: rest, locked := none }) _
  jvm_step X.here [X.here.top, hx, hd, hm', hret, hn]
  first | (intro acts; rw [hl _ acts rfl rfl rfl]) | rw [hl _ _ rfl rfl rfl]
  exact Steps.refl _
end New
end Jvm.RoadKit
namespace Jvm.Pilot.@@N@@
open Jvm Jvm.ClassFile Sem Op Lib Jvm.Free Jvm.Stand Jvm.LawKit Jvm.RoadKit Bundle Jvm.Pilot.@@N@@.Jvm.D
theorem own_pn0 : plainName "com/example/wirefold/wirefold/binary/Framing" = true := by first | (simp [plainName, overriddenIn]; done) | decide +kernel
theorem own_pd31 : parseMethodDescriptor "(J)Lcom/example/wirefold/wirefold/binary/Framing;" = some ⟨[.long], some (.object "com/example/wirefold/wirefold/binary/Framing")⟩ := by decide +kernel
theorem own_pn32 : plainName "com/example/wirefold/wirefold/binary/FramingWithIndicatorPinLaw" = true := by first | (simp [plainName, overriddenIn]; done) | decide +kernel
-- body 1
theorem own_d1_0 : decode prog_8_method_8_code 0 = .ok (.getstatic 85, 3) := by decide +kernel
theorem own_d1_3 : decode prog_8_method_8_code 3 = .ok (.astore_n 2, 1) := by decide +kernel
theorem own_d1_4 : decode prog_8_method_8_code 4 = .ok (.aload_n 2, 1) := by decide +kernel
theorem own_d1_5 : decode prog_8_method_8_code 5 = .ok (.arraylength, 1) := by decide +kernel
theorem own_d1_6 : decode prog_8_method_8_code 6 = .ok (.istore_n 3, 1) := by decide +kernel
theorem own_d1_7 : decode prog_8_method_8_code 7 = .ok (.iconst 0, 1) := by decide +kernel
theorem own_d1_8 : decode prog_8_method_8_code 8 = .ok (.istore 4, 2) := by decide +kernel
theorem own_d1_10 : decode prog_8_method_8_code 10 = .ok (.iload 4, 2) := by decide +kernel
theorem own_d1_12 : decode prog_8_method_8_code 12 = .ok (.iload_n 3, 1) := by decide +kernel
theorem own_d1_13 : decode prog_8_method_8_code 13 = .ok (.if_icmp .ge 38, 3) := by decide +kernel
theorem own_d1_16 : decode prog_8_method_8_code 16 = .ok (.aload_n 2, 1) := by decide +kernel
theorem own_d1_17 : decode prog_8_method_8_code 17 = .ok (.iload 4, 2) := by decide +kernel
theorem own_d1_19 : decode prog_8_method_8_code 19 = .ok (.aaload, 1) := by decide +kernel
theorem own_d1_20 : decode prog_8_method_8_code 20 = .ok (.astore 5, 2) := by decide +kernel
theorem own_d1_22 : decode prog_8_method_8_code 22 = .ok (.lload_n 0, 1) := by decide +kernel
theorem own_d1_23 : decode prog_8_method_8_code 23 = .ok (.aload 5, 2) := by decide +kernel
theorem own_d1_25 : decode prog_8_method_8_code 25 = .ok (.getfield 29, 3) := by decide +kernel
theorem own_d1_28 : decode prog_8_method_8_code 28 = .ok (.lcmp, 1) := by decide +kernel
theorem own_d1_29 : decode prog_8_method_8_code 29 = .ok (.ifCond .eq 13, 3) := by decide +kernel
theorem own_d1_32 : decode prog_8_method_8_code 32 = .ok (.lload_n 0, 1) := by decide +kernel
theorem own_d1_33 : decode prog_8_method_8_code 33 = .ok (.aload 5, 2) := by decide +kernel
theorem own_d1_35 : decode prog_8_method_8_code 35 = .ok (.getfield 33, 3) := by decide +kernel
theorem own_d1_38 : decode prog_8_method_8_code 38 = .ok (.lcmp, 1) := by decide +kernel
theorem own_d1_39 : decode prog_8_method_8_code 39 = .ok (.ifCond .ne 6, 3) := by decide +kernel
theorem own_d1_42 : decode prog_8_method_8_code 42 = .ok (.aload 5, 2) := by decide +kernel
theorem own_d1_44 : decode prog_8_method_8_code 44 = .ok (.areturn, 1) := by decide +kernel
theorem own_d1_45 : decode prog_8_method_8_code 45 = .ok (.iinc 4 1, 3) := by decide +kernel
theorem own_d1_48 : decode prog_8_method_8_code 48 = .ok (.goto (-38), 3) := by decide +kernel
theorem own_d1_51 : decode prog_8_method_8_code 51 = .ok (.aconst_null, 1) := by decide +kernel
theorem own_d1_52 : decode prog_8_method_8_code 52 = .ok (.areturn, 1) := by decide +kernel
theorem own_ef1 (m : MethodId) (x0 : Int64) : entryFrame m #[(.long x0)] 6 = mkF m 0 #[.val (.long x0), .second, .unset, .unset, .unset, .unset] [] := by first | (simp [entryFrame, mkF, argsToLocals, Value.category]; done) | rfl
def own_f1 (q1 : Int64) (el0 : Addr) (el1 : Addr) : Value := if (lcmpW q1 (0 : Int64)) = (0 : Int32) then (.ref el0)
    else if (lcmpW q1 (1 : Int64)) = (0 : Int32) then (.ref el0)
      else if (lcmpW q1 (2 : Int64)) = (0 : Int32) then (.ref el1)
        else if (lcmpW q1 (3 : Int64)) = (0 : Int32) then (.ref el1)
          else .null
def own_Q1 (Z : State) (q1 : Int64) (k_w_ALL : ClassId) (el0 : Addr) (el1 : Addr) (w_ALL : Addr) (h0 : Heap) (n0 : Nat) (v : Option Value) (h : Heap) (L : List Loc) : Prop := v = some (own_f1 q1 el0 el1) ∧ Fr n0 L ∧ h = h0
set_option maxRecDepth 65536 in
set_option maxHeartbeats 40000000 in
theorem own_rm1 (l : Launch) (Z : State) (a0 : Array Value) (hw : ∀ d ∈ tables_1, d.before a0 Z = true) (ws : List Jvm.Cond) (q1 : Int64) (k_w_ALL : ClassId) (el0 : Addr) (el1 : Addr) (w_ALL : Addr) (h0 : Heap) (n0 : Nat) (Z0 : n0 ≤ h0.size) (V_w_ALL : Arv Z h0 w_ALL k_w_ALL (.object "com/example/wirefold/wirefold/binary/Framing") (2 : Int32) [(.ref el0), (.ref el1)] .null) (S_ALL : Sta Z h0 "com/example/wirefold/wirefold/binary/Framing" "ALL" "[Lcom/example/wirefold/wirefold/binary/Framing;" (.ref w_ALL)) (F_requestIndicator_el0 : Fld Z h0 el0 "com/example/wirefold/wirefold/binary/Framing" "requestIndicator" "J" (.long (0 : Int64))) (F_responseIndicator_el0 : Fld Z h0 el0 "com/example/wirefold/wirefold/binary/Framing" "responseIndicator" "J" (.long (1 : Int64))) (F_requestIndicator_el1 : Fld Z h0 el1 "com/example/wirefold/wirefold/binary/Framing" "requestIndicator" "J" (.long (2 : Int64))) (F_responseIndicator_el1 : Fld Z h0 el1 "com/example/wirefold/wirefold/binary/Framing" "responseIndicator" "J" (.long (3 : Int64))) :
    MetFree l (⟨"com/example/wirefold/wirefold/binary/Framing", "withIndicator", "(J)Lcom/example/wirefold/wirefold/binary/Framing;"⟩ : MethodName) (head1 (Jvm.Cond.code (⟨"com/example/wirefold/wirefold/binary/Framing", "withIndicator", "(J)Lcom/example/wirefold/wirefold/binary/Framing;"⟩ : MethodName) prog_8_method_8_code 6 (some (.object "com/example/wirefold/wirefold/binary/Framing")) :: ws) ({ frames := 0, cells := 0, slots := 0, locals := 0 } : Room)) (fun a U => a = #[(.long q1)] ∧ Z.Warmed39 U.vm ∧ U.heap = h0) (fun _ _ _ _ _ => True) (fun _ U o U' => ∃ v L, o = .returned v ∧ own_Q1 Z q1 k_w_ALL el0 el1 w_ALL h0 n0 v U'.heap L ∧ FrameEnd U o U' L ({ frames := 0, cells := 0, slots := 0, locals := 0 } : Room).cells ({ frames := 0, cells := 0, slots := 0, locals := 0 } : Room).slots) := by
  refine MetFree.of_bodySF (plainFor_of_name own_pn0) hisR ?_
  intro p e s m args below meth c s₁ Bd hml0 hP hK
  obtain ⟨rfl, hZ, hh⟩ := hP
  have hx := Bd.exec
  have hby := Bd.bytes
  have hml : c.maxLocals = 6 := hml0
  have hown : s.vm.findClass "com/example/wirefold/wirefold/binary/Framing" = some m.cls := findClass_of_methodNamed Bd.named
  have hnm := (name_of_methodNamed Bd.named Bd.method).1
  have X0 : Stand p l e ({ frames := 0, cells := 0, slots := 0, locals := 0 } : Room) s m #[(.long q1)] below meth c s₁ [] 0 0 := Stand.of_body Bd
  have e0 : s₁.heap = h0 := by rw [← hh, Bd.state]; rfl
  have N0 := Fr.nil n0
  have pre0 : ∀ t, Steps p.tables e below (s₁.setTop (mkF m 0 #[.val (.long q1), .second, .unset, .unset, .unset, .unset] [])) t → Steps p.tables e below (s₁.setTop (entryFrame m #[(.long q1)] 6)) t := fun t k => castTop (own_ef1 m q1) k
  obtain ⟨T1, X1, e1, st1⟩ := getS2 X0 hx hZ hown (host := "") (Or.inl (hw _ (List.mem_of_getElem? (i := 4) rfl))) Via.refl e0 S_ALL (g := (mkF m 0 #[.val (.long q1), .second, .unset, .unset, .unset, .unset] [])) rfl (hb hby own_d1_0)
  obtain ⟨cl2, Ar2, qk2, Sz2, Nn2, Hs2, Gf2⟩ := id V_w_ALL
  obtain ⟨cl3, Ar3, qk3, Sz3, Nn3, Hs3, Gf3⟩ := id V_w_ALL
  have hin3 : ¬ ((0 : Int32) < 0 ∨ cl3.slots.size ≤ ((0 : Int32)).toNatClampNeg) := inb_of Sz3 ⟨by decide, by decide⟩
  have hat3 : cl3.slots[((0 : Int32)).toNatClampNeg]? = some (.ref el0) := Has.at Hs3 hin3 rfl
  obtain ⟨T4, X4, e4, st4⟩ := getF X1 hx hZ hown (host := "") (Or.inl (hw _ (List.mem_of_getElem? (i := 6) rfl))) Via.refl e1 F_requestIndicator_el0 (g := (mkF m 25 #[.val (.long q1), .second, .val (.ref w_ALL), .val (.int (2 : Int32)), .val (.int (0 : Int32)), .val (.ref el0)] [(.ref el0), (.long q1)])) rfl rfl (hb hby own_d1_25)
  have k5 : ∀ t, Steps p.tables e below (T4.setTop (mkF m 29 #[.val (.long q1), .second, .val (.ref w_ALL), .val (.int (2 : Int32)), .val (.int (0 : Int32)), .val (.ref el0)] [(.int (lcmpW q1 (0 : Int64)))])) t → Steps p.tables e below (s₁.setTop (entryFrame m #[(.long q1)] 6)) t := by
    intro t kt
    refine pre0 t ?_
    show Steps p.tables e below (s₁.setTop (mkF m 0 #[.val (.long q1), .second, .unset, .unset, .unset, .unset] [])) _
    refine st1 _ ?_
    show Steps p.tables e below (T1.setTop (mkF m 3 #[.val (.long q1), .second, .unset, .unset, .unset, .unset] [(.ref w_ALL)])) _
    refine XS.astoreN X1.here hx rfl (hb hby own_d1_3) rfl rfl (l' := #[.val (.long q1), .second, .val (.ref w_ALL), .unset, .unset, .unset]) rfl ?_
    show Steps p.tables e below (T1.setTop (mkF m 4 #[.val (.long q1), .second, .val (.ref w_ALL), .unset, .unset, .unset] [])) _
    refine XS.aloadN X1.here hx rfl (hb hby own_d1_4) rfl rfl ?_
    show Steps p.tables e below (T1.setTop (mkF m 5 #[.val (.long q1), .second, .val (.ref w_ALL), .unset, .unset, .unset] [(.ref w_ALL)])) _
    refine X1.arraylength hx (by rw [e1]; exact Ar2.1) (State.isArrayOf_alike hZ.alike Ar2.2.1) (g := (mkF m 5 #[.val (.long q1), .second, .val (.ref w_ALL), .unset, .unset, .unset] [(.ref w_ALL)])) rfl rfl (hb hby own_d1_5) _ ?_
    rw [len_of Sz2 Nn2]
    show Steps p.tables e below (T1.setTop (mkF m 6 #[.val (.long q1), .second, .val (.ref w_ALL), .unset, .unset, .unset] [(.int (2 : Int32))])) _
    refine XS.istoreN X1.here hx rfl (hb hby own_d1_6) rfl (l' := #[.val (.long q1), .second, .val (.ref w_ALL), .val (.int (2 : Int32)), .unset, .unset]) rfl ?_
    show Steps p.tables e below (T1.setTop (mkF m 7 #[.val (.long q1), .second, .val (.ref w_ALL), .val (.int (2 : Int32)), .unset, .unset] [])) _
    refine XS.iconst X1.here hx rfl (hb hby own_d1_7) ?_
    show Steps p.tables e below (T1.setTop (mkF m 8 #[.val (.long q1), .second, .val (.ref w_ALL), .val (.int (2 : Int32)), .unset, .unset] [(.int (0 : Int32))])) _
    refine XS.istore X1.here hx rfl (hb hby own_d1_8) rfl (l' := #[.val (.long q1), .second, .val (.ref w_ALL), .val (.int (2 : Int32)), .val (.int (0 : Int32)), .unset]) rfl ?_
    show Steps p.tables e below (T1.setTop (mkF m 10 #[.val (.long q1), .second, .val (.ref w_ALL), .val (.int (2 : Int32)), .val (.int (0 : Int32)), .unset] [])) _
    refine XS.iload X1.here hx rfl (hb hby own_d1_10) rfl ?_
    show Steps p.tables e below (T1.setTop (mkF m 12 #[.val (.long q1), .second, .val (.ref w_ALL), .val (.int (2 : Int32)), .val (.int (0 : Int32)), .unset] [(.int (0 : Int32))])) _
    refine XS.iloadN X1.here hx rfl (hb hby own_d1_12) rfl ?_
    show Steps p.tables e below (T1.setTop (mkF m 13 #[.val (.long q1), .second, .val (.ref w_ALL), .val (.int (2 : Int32)), .val (.int (0 : Int32)), .unset] [(.int (2 : Int32)), (.int (0 : Int32))])) _
    refine XS.icmpNo X1.here hx rfl (hb hby own_d1_13) rfl (tlt (by decide : (0 : Int32) < (2 : Int32))).2.1 ?_
    show Steps p.tables e below (T1.setTop (mkF m 16 #[.val (.long q1), .second, .val (.ref w_ALL), .val (.int (2 : Int32)), .val (.int (0 : Int32)), .unset] [])) _
    refine XS.aloadN X1.here hx rfl (hb hby own_d1_16) rfl rfl ?_
    show Steps p.tables e below (T1.setTop (mkF m 17 #[.val (.long q1), .second, .val (.ref w_ALL), .val (.int (2 : Int32)), .val (.int (0 : Int32)), .unset] [(.ref w_ALL)])) _
    refine XS.iload X1.here hx rfl (hb hby own_d1_17) rfl ?_
    show Steps p.tables e below (T1.setTop (mkF m 19 #[.val (.long q1), .second, .val (.ref w_ALL), .val (.int (2 : Int32)), .val (.int (0 : Int32)), .unset] [(.int (0 : Int32)), (.ref w_ALL)])) _
    refine X1.aaload hx (j := (0 : Int32)) (v := (.ref el0)) (by rw [e1]; exact Ar3.1) (State.isArrayOf_alike hZ.alike Ar3.2.1) rfl Ar3.2.2 hin3 hat3 (g := (mkF m 19 #[.val (.long q1), .second, .val (.ref w_ALL), .val (.int (2 : Int32)), .val (.int (0 : Int32)), .unset] [(.int (0 : Int32)), (.ref w_ALL)])) rfl rfl (hb hby own_d1_19) _ ?_
    show Steps p.tables e below (T1.setTop (mkF m 20 #[.val (.long q1), .second, .val (.ref w_ALL), .val (.int (2 : Int32)), .val (.int (0 : Int32)), .unset] [(.ref el0)])) _
    refine XS.astore X1.here hx rfl (hb hby own_d1_20) rfl rfl (l' := #[.val (.long q1), .second, .val (.ref w_ALL), .val (.int (2 : Int32)), .val (.int (0 : Int32)), .val (.ref el0)]) rfl ?_
    show Steps p.tables e below (T1.setTop (mkF m 22 #[.val (.long q1), .second, .val (.ref w_ALL), .val (.int (2 : Int32)), .val (.int (0 : Int32)), .val (.ref el0)] [])) _
    refine XS.lloadN X1.here hx rfl (hb hby own_d1_22) rfl ?_
    show Steps p.tables e below (T1.setTop (mkF m 23 #[.val (.long q1), .second, .val (.ref w_ALL), .val (.int (2 : Int32)), .val (.int (0 : Int32)), .val (.ref el0)] [(.long q1)])) _
    refine XS.aload X1.here hx rfl (hb hby own_d1_23) rfl rfl ?_
    show Steps p.tables e below (T1.setTop (mkF m 25 #[.val (.long q1), .second, .val (.ref w_ALL), .val (.int (2 : Int32)), .val (.int (0 : Int32)), .val (.ref el0)] [(.ref el0), (.long q1)])) _
    refine st4 _ ?_
    show Steps p.tables e below (T4.setTop (mkF m 28 #[.val (.long q1), .second, .val (.ref w_ALL), .val (.int (2 : Int32)), .val (.int (0 : Int32)), .val (.ref el0)] [(.long (0 : Int64)), (.long q1)])) _
    refine XS.lcmp X4.here hx rfl (hb hby own_d1_28) rfl ?_
    exact kt
  by_cases hc1 : (lcmpW q1 (0 : Int64)) = (0 : Int32)
  ·
    obtain ⟨fs, hr, hrun, hended, hW, hsame⟩ := X4.leave (v := some (.ref el0)) (fun h => by rw [Bd.returns] at h; cases h)
    refine ⟨_, _, k5 _ ?_, hrun, hended, _, _, rfl, ?_, ⟨_, rfl⟩, hW, hsame.mono (by decide) (by decide)⟩
    · show Steps p.tables e below (T4.setTop (mkF m 29 #[.val (.long q1), .second, .val (.ref w_ALL), .val (.int (2 : Int32)), .val (.int (0 : Int32)), .val (.ref el0)] [(.int (lcmpW q1 (0 : Int64)))])) _
      refine XS.ifYes X4.here hx rfl (pc0 := 29) (pc' := 42) rfl (hb hby own_d1_29) rfl ((if0 _ _).trans (teq hc1).1) (by decide) (by decide) ?_
      show Steps p.tables e below (T4.setTop (mkF m 42 #[.val (.long q1), .second, .val (.ref w_ALL), .val (.int (2 : Int32)), .val (.int (0 : Int32)), .val (.ref el0)] [])) _
      refine XS.aload X4.here hx rfl (hb hby own_d1_42) rfl rfl ?_
      show Steps p.tables e below (T4.setTop (mkF m 44 #[.val (.long q1), .second, .val (.ref w_ALL), .val (.int (2 : Int32)), .val (.int (0 : Int32)), .val (.ref el0)] [(.ref el0)])) _
      jvm_step X4.here [X4.here.top, hx, (hb hby own_d1_44), X4.method', Bd.returns, Value.isRef, FieldType.isReference]
      first | (intro acts; rw [hr _ acts rfl rfl rfl]) | rw [hr _ _ rfl rfl rfl]
      exact Steps.refl _
    · show own_Q1 Z q1 k_w_ALL el0 el1 w_ALL h0 n0 _ T4.heap _
      rw [e4]
      exact ⟨(by rw [own_f1, if_pos hc1]), N0, rfl⟩
  ·
    obtain ⟨T6, X6, e6, st6⟩ := getF X4 hx hZ hown (host := "") (Or.inl (hw _ (List.mem_of_getElem? (i := 8) rfl))) Via.refl e4 F_responseIndicator_el0 (g := (mkF m 35 #[.val (.long q1), .second, .val (.ref w_ALL), .val (.int (2 : Int32)), .val (.int (0 : Int32)), .val (.ref el0)] [(.ref el0), (.long q1)])) rfl rfl (hb hby own_d1_35)
    have k7 : ∀ t, Steps p.tables e below (T6.setTop (mkF m 39 #[.val (.long q1), .second, .val (.ref w_ALL), .val (.int (2 : Int32)), .val (.int (0 : Int32)), .val (.ref el0)] [(.int (lcmpW q1 (1 : Int64)))])) t → Steps p.tables e below (s₁.setTop (entryFrame m #[(.long q1)] 6)) t := by
      intro t kt
      refine k5 t ?_
      show Steps p.tables e below (T4.setTop (mkF m 29 #[.val (.long q1), .second, .val (.ref w_ALL), .val (.int (2 : Int32)), .val (.int (0 : Int32)), .val (.ref el0)] [(.int (lcmpW q1 (0 : Int64)))])) _
      refine XS.ifNo X4.here hx rfl (hb hby own_d1_29) rfl ((if0 _ _).trans (feq hc1).1) ?_
      show Steps p.tables e below (T4.setTop (mkF m 32 #[.val (.long q1), .second, .val (.ref w_ALL), .val (.int (2 : Int32)), .val (.int (0 : Int32)), .val (.ref el0)] [])) _
      refine XS.lloadN X4.here hx rfl (hb hby own_d1_32) rfl ?_
      show Steps p.tables e below (T4.setTop (mkF m 33 #[.val (.long q1), .second, .val (.ref w_ALL), .val (.int (2 : Int32)), .val (.int (0 : Int32)), .val (.ref el0)] [(.long q1)])) _
      refine XS.aload X4.here hx rfl (hb hby own_d1_33) rfl rfl ?_
      show Steps p.tables e below (T4.setTop (mkF m 35 #[.val (.long q1), .second, .val (.ref w_ALL), .val (.int (2 : Int32)), .val (.int (0 : Int32)), .val (.ref el0)] [(.ref el0), (.long q1)])) _
      refine st6 _ ?_
      show Steps p.tables e below (T6.setTop (mkF m 38 #[.val (.long q1), .second, .val (.ref w_ALL), .val (.int (2 : Int32)), .val (.int (0 : Int32)), .val (.ref el0)] [(.long (1 : Int64)), (.long q1)])) _
      refine XS.lcmp X6.here hx rfl (hb hby own_d1_38) rfl ?_
      exact kt
    by_cases hc2 : (lcmpW q1 (1 : Int64)) = (0 : Int32)
    ·
      obtain ⟨fs, hr, hrun, hended, hW, hsame⟩ := X6.leave (v := some (.ref el0)) (fun h => by rw [Bd.returns] at h; cases h)
      refine ⟨_, _, k7 _ ?_, hrun, hended, _, _, rfl, ?_, ⟨_, rfl⟩, hW, hsame.mono (by decide) (by decide)⟩
      · show Steps p.tables e below (T6.setTop (mkF m 39 #[.val (.long q1), .second, .val (.ref w_ALL), .val (.int (2 : Int32)), .val (.int (0 : Int32)), .val (.ref el0)] [(.int (lcmpW q1 (1 : Int64)))])) _
        refine XS.ifNo X6.here hx rfl (hb hby own_d1_39) rfl ((if0 _ _).trans (teq hc2).2) ?_
        show Steps p.tables e below (T6.setTop (mkF m 42 #[.val (.long q1), .second, .val (.ref w_ALL), .val (.int (2 : Int32)), .val (.int (0 : Int32)), .val (.ref el0)] [])) _
        refine XS.aload X6.here hx rfl (hb hby own_d1_42) rfl rfl ?_
        show Steps p.tables e below (T6.setTop (mkF m 44 #[.val (.long q1), .second, .val (.ref w_ALL), .val (.int (2 : Int32)), .val (.int (0 : Int32)), .val (.ref el0)] [(.ref el0)])) _
        jvm_step X6.here [X6.here.top, hx, (hb hby own_d1_44), X6.method', Bd.returns, Value.isRef, FieldType.isReference]
        first | (intro acts; rw [hr _ acts rfl rfl rfl]) | rw [hr _ _ rfl rfl rfl]
        exact Steps.refl _
      · show own_Q1 Z q1 k_w_ALL el0 el1 w_ALL h0 n0 _ T6.heap _
        rw [e6]
        exact ⟨(by rw [own_f1, if_neg hc1, if_pos hc2]), N0, rfl⟩
    ·
      obtain ⟨cl8, Ar8, qk8, Sz8, Nn8, Hs8, Gf8⟩ := id V_w_ALL
      have hin8 : ¬ ((1 : Int32) < 0 ∨ cl8.slots.size ≤ ((1 : Int32)).toNatClampNeg) := inb_of Sz8 ⟨by decide, by decide⟩
      have hat8 : cl8.slots[((1 : Int32)).toNatClampNeg]? = some (.ref el1) := Has.at Hs8 hin8 rfl
      obtain ⟨T9, X9, e9, st9⟩ := getF X6 hx hZ hown (host := "") (Or.inl (hw _ (List.mem_of_getElem? (i := 6) rfl))) Via.refl e6 F_requestIndicator_el1 (g := (mkF m 25 #[.val (.long q1), .second, .val (.ref w_ALL), .val (.int (2 : Int32)), .val (.int (1 : Int32)), .val (.ref el1)] [(.ref el1), (.long q1)])) rfl rfl (hb hby own_d1_25)
      have k10 : ∀ t, Steps p.tables e below (T9.setTop (mkF m 29 #[.val (.long q1), .second, .val (.ref w_ALL), .val (.int (2 : Int32)), .val (.int (1 : Int32)), .val (.ref el1)] [(.int (lcmpW q1 (2 : Int64)))])) t → Steps p.tables e below (s₁.setTop (entryFrame m #[(.long q1)] 6)) t := by
        intro t kt
        refine k7 t ?_
        show Steps p.tables e below (T6.setTop (mkF m 39 #[.val (.long q1), .second, .val (.ref w_ALL), .val (.int (2 : Int32)), .val (.int (0 : Int32)), .val (.ref el0)] [(.int (lcmpW q1 (1 : Int64)))])) _
        refine XS.ifYes X6.here hx rfl (pc0 := 39) (pc' := 45) rfl (hb hby own_d1_39) rfl ((if0 _ _).trans (feq hc2).2) (by decide) (by decide) ?_
        show Steps p.tables e below (T6.setTop (mkF m 45 #[.val (.long q1), .second, .val (.ref w_ALL), .val (.int (2 : Int32)), .val (.int (0 : Int32)), .val (.ref el0)] [])) _
        refine XS.iinc X6.here hx rfl (hb hby own_d1_45) rfl (l' := #[.val (.long q1), .second, .val (.ref w_ALL), .val (.int (2 : Int32)), .val (.int (1 : Int32)), .val (.ref el0)]) rfl ?_
        show Steps p.tables e below (T6.setTop (mkF m 48 #[.val (.long q1), .second, .val (.ref w_ALL), .val (.int (2 : Int32)), .val (.int (1 : Int32)), .val (.ref el0)] [])) _
        refine XS.goto X6.here hx rfl (pc0 := 48) (pc' := 10) rfl (hb hby own_d1_48) (by decide) (by decide) ?_
        show Steps p.tables e below (T6.setTop (mkF m 10 #[.val (.long q1), .second, .val (.ref w_ALL), .val (.int (2 : Int32)), .val (.int (1 : Int32)), .val (.ref el0)] [])) _
        refine XS.iload X6.here hx rfl (hb hby own_d1_10) rfl ?_
        show Steps p.tables e below (T6.setTop (mkF m 12 #[.val (.long q1), .second, .val (.ref w_ALL), .val (.int (2 : Int32)), .val (.int (1 : Int32)), .val (.ref el0)] [(.int (1 : Int32))])) _
        refine XS.iloadN X6.here hx rfl (hb hby own_d1_12) rfl ?_
        show Steps p.tables e below (T6.setTop (mkF m 13 #[.val (.long q1), .second, .val (.ref w_ALL), .val (.int (2 : Int32)), .val (.int (1 : Int32)), .val (.ref el0)] [(.int (2 : Int32)), (.int (1 : Int32))])) _
        refine XS.icmpNo X6.here hx rfl (hb hby own_d1_13) rfl (tlt (by decide : (1 : Int32) < (2 : Int32))).2.1 ?_
        show Steps p.tables e below (T6.setTop (mkF m 16 #[.val (.long q1), .second, .val (.ref w_ALL), .val (.int (2 : Int32)), .val (.int (1 : Int32)), .val (.ref el0)] [])) _
        refine XS.aloadN X6.here hx rfl (hb hby own_d1_16) rfl rfl ?_
        show Steps p.tables e below (T6.setTop (mkF m 17 #[.val (.long q1), .second, .val (.ref w_ALL), .val (.int (2 : Int32)), .val (.int (1 : Int32)), .val (.ref el0)] [(.ref w_ALL)])) _
        refine XS.iload X6.here hx rfl (hb hby own_d1_17) rfl ?_
        show Steps p.tables e below (T6.setTop (mkF m 19 #[.val (.long q1), .second, .val (.ref w_ALL), .val (.int (2 : Int32)), .val (.int (1 : Int32)), .val (.ref el0)] [(.int (1 : Int32)), (.ref w_ALL)])) _
        refine X6.aaload hx (j := (1 : Int32)) (v := (.ref el1)) (by rw [e6]; exact Ar8.1) (State.isArrayOf_alike hZ.alike Ar8.2.1) rfl Ar8.2.2 hin8 hat8 (g := (mkF m 19 #[.val (.long q1), .second, .val (.ref w_ALL), .val (.int (2 : Int32)), .val (.int (1 : Int32)), .val (.ref el0)] [(.int (1 : Int32)), (.ref w_ALL)])) rfl rfl (hb hby own_d1_19) _ ?_
        show Steps p.tables e below (T6.setTop (mkF m 20 #[.val (.long q1), .second, .val (.ref w_ALL), .val (.int (2 : Int32)), .val (.int (1 : Int32)), .val (.ref el0)] [(.ref el1)])) _
        refine XS.astore X6.here hx rfl (hb hby own_d1_20) rfl rfl (l' := #[.val (.long q1), .second, .val (.ref w_ALL), .val (.int (2 : Int32)), .val (.int (1 : Int32)), .val (.ref el1)]) rfl ?_
        show Steps p.tables e below (T6.setTop (mkF m 22 #[.val (.long q1), .second, .val (.ref w_ALL), .val (.int (2 : Int32)), .val (.int (1 : Int32)), .val (.ref el1)] [])) _
        refine XS.lloadN X6.here hx rfl (hb hby own_d1_22) rfl ?_
        show Steps p.tables e below (T6.setTop (mkF m 23 #[.val (.long q1), .second, .val (.ref w_ALL), .val (.int (2 : Int32)), .val (.int (1 : Int32)), .val (.ref el1)] [(.long q1)])) _
        refine XS.aload X6.here hx rfl (hb hby own_d1_23) rfl rfl ?_
        show Steps p.tables e below (T6.setTop (mkF m 25 #[.val (.long q1), .second, .val (.ref w_ALL), .val (.int (2 : Int32)), .val (.int (1 : Int32)), .val (.ref el1)] [(.ref el1), (.long q1)])) _
        refine st9 _ ?_
        show Steps p.tables e below (T9.setTop (mkF m 28 #[.val (.long q1), .second, .val (.ref w_ALL), .val (.int (2 : Int32)), .val (.int (1 : Int32)), .val (.ref el1)] [(.long (2 : Int64)), (.long q1)])) _
        refine XS.lcmp X9.here hx rfl (hb hby own_d1_28) rfl ?_
        exact kt
      by_cases hc3 : (lcmpW q1 (2 : Int64)) = (0 : Int32)
      ·
        obtain ⟨fs, hr, hrun, hended, hW, hsame⟩ := X9.leave (v := some (.ref el1)) (fun h => by rw [Bd.returns] at h; cases h)
        refine ⟨_, _, k10 _ ?_, hrun, hended, _, _, rfl, ?_, ⟨_, rfl⟩, hW, hsame.mono (by decide) (by decide)⟩
        · show Steps p.tables e below (T9.setTop (mkF m 29 #[.val (.long q1), .second, .val (.ref w_ALL), .val (.int (2 : Int32)), .val (.int (1 : Int32)), .val (.ref el1)] [(.int (lcmpW q1 (2 : Int64)))])) _
          refine XS.ifYes X9.here hx rfl (pc0 := 29) (pc' := 42) rfl (hb hby own_d1_29) rfl ((if0 _ _).trans (teq hc3).1) (by decide) (by decide) ?_
          show Steps p.tables e below (T9.setTop (mkF m 42 #[.val (.long q1), .second, .val (.ref w_ALL), .val (.int (2 : Int32)), .val (.int (1 : Int32)), .val (.ref el1)] [])) _
          refine XS.aload X9.here hx rfl (hb hby own_d1_42) rfl rfl ?_
          show Steps p.tables e below (T9.setTop (mkF m 44 #[.val (.long q1), .second, .val (.ref w_ALL), .val (.int (2 : Int32)), .val (.int (1 : Int32)), .val (.ref el1)] [(.ref el1)])) _
          jvm_step X9.here [X9.here.top, hx, (hb hby own_d1_44), X9.method', Bd.returns, Value.isRef, FieldType.isReference]
          first | (intro acts; rw [hr _ acts rfl rfl rfl]) | rw [hr _ _ rfl rfl rfl]
          exact Steps.refl _
        · show own_Q1 Z q1 k_w_ALL el0 el1 w_ALL h0 n0 _ T9.heap _
          rw [e9]
          exact ⟨(by rw [own_f1, if_neg hc1, if_neg hc2, if_pos hc3]), N0, rfl⟩
      ·
        obtain ⟨T11, X11, e11, st11⟩ := getF X9 hx hZ hown (host := "") (Or.inl (hw _ (List.mem_of_getElem? (i := 8) rfl))) Via.refl e9 F_responseIndicator_el1 (g := (mkF m 35 #[.val (.long q1), .second, .val (.ref w_ALL), .val (.int (2 : Int32)), .val (.int (1 : Int32)), .val (.ref el1)] [(.ref el1), (.long q1)])) rfl rfl (hb hby own_d1_35)
        have k12 : ∀ t, Steps p.tables e below (T11.setTop (mkF m 39 #[.val (.long q1), .second, .val (.ref w_ALL), .val (.int (2 : Int32)), .val (.int (1 : Int32)), .val (.ref el1)] [(.int (lcmpW q1 (3 : Int64)))])) t → Steps p.tables e below (s₁.setTop (entryFrame m #[(.long q1)] 6)) t := by
          intro t kt
          refine k10 t ?_
          show Steps p.tables e below (T9.setTop (mkF m 29 #[.val (.long q1), .second, .val (.ref w_ALL), .val (.int (2 : Int32)), .val (.int (1 : Int32)), .val (.ref el1)] [(.int (lcmpW q1 (2 : Int64)))])) _
          refine XS.ifNo X9.here hx rfl (hb hby own_d1_29) rfl ((if0 _ _).trans (feq hc3).1) ?_
          show Steps p.tables e below (T9.setTop (mkF m 32 #[.val (.long q1), .second, .val (.ref w_ALL), .val (.int (2 : Int32)), .val (.int (1 : Int32)), .val (.ref el1)] [])) _
          refine XS.lloadN X9.here hx rfl (hb hby own_d1_32) rfl ?_
          show Steps p.tables e below (T9.setTop (mkF m 33 #[.val (.long q1), .second, .val (.ref w_ALL), .val (.int (2 : Int32)), .val (.int (1 : Int32)), .val (.ref el1)] [(.long q1)])) _
          refine XS.aload X9.here hx rfl (hb hby own_d1_33) rfl rfl ?_
          show Steps p.tables e below (T9.setTop (mkF m 35 #[.val (.long q1), .second, .val (.ref w_ALL), .val (.int (2 : Int32)), .val (.int (1 : Int32)), .val (.ref el1)] [(.ref el1), (.long q1)])) _
          refine st11 _ ?_
          show Steps p.tables e below (T11.setTop (mkF m 38 #[.val (.long q1), .second, .val (.ref w_ALL), .val (.int (2 : Int32)), .val (.int (1 : Int32)), .val (.ref el1)] [(.long (3 : Int64)), (.long q1)])) _
          refine XS.lcmp X11.here hx rfl (hb hby own_d1_38) rfl ?_
          exact kt
        by_cases hc4 : (lcmpW q1 (3 : Int64)) = (0 : Int32)
        ·
          obtain ⟨fs, hr, hrun, hended, hW, hsame⟩ := X11.leave (v := some (.ref el1)) (fun h => by rw [Bd.returns] at h; cases h)
          refine ⟨_, _, k12 _ ?_, hrun, hended, _, _, rfl, ?_, ⟨_, rfl⟩, hW, hsame.mono (by decide) (by decide)⟩
          · show Steps p.tables e below (T11.setTop (mkF m 39 #[.val (.long q1), .second, .val (.ref w_ALL), .val (.int (2 : Int32)), .val (.int (1 : Int32)), .val (.ref el1)] [(.int (lcmpW q1 (3 : Int64)))])) _
            refine XS.ifNo X11.here hx rfl (hb hby own_d1_39) rfl ((if0 _ _).trans (teq hc4).2) ?_
            show Steps p.tables e below (T11.setTop (mkF m 42 #[.val (.long q1), .second, .val (.ref w_ALL), .val (.int (2 : Int32)), .val (.int (1 : Int32)), .val (.ref el1)] [])) _
            refine XS.aload X11.here hx rfl (hb hby own_d1_42) rfl rfl ?_
            show Steps p.tables e below (T11.setTop (mkF m 44 #[.val (.long q1), .second, .val (.ref w_ALL), .val (.int (2 : Int32)), .val (.int (1 : Int32)), .val (.ref el1)] [(.ref el1)])) _
            jvm_step X11.here [X11.here.top, hx, (hb hby own_d1_44), X11.method', Bd.returns, Value.isRef, FieldType.isReference]
            first | (intro acts; rw [hr _ acts rfl rfl rfl]) | rw [hr _ _ rfl rfl rfl]
            exact Steps.refl _
          · show own_Q1 Z q1 k_w_ALL el0 el1 w_ALL h0 n0 _ T11.heap _
            rw [e11]
            exact ⟨(by rw [own_f1, if_neg hc1, if_neg hc2, if_neg hc3, if_pos hc4]), N0, rfl⟩
        ·
          obtain ⟨fs, hr, hrun, hended, hW, hsame⟩ := X11.leave (v := some .null) (fun h => by rw [Bd.returns] at h; cases h)
          refine ⟨_, _, k12 _ ?_, hrun, hended, _, _, rfl, ?_, ⟨_, rfl⟩, hW, hsame.mono (by decide) (by decide)⟩
          · show Steps p.tables e below (T11.setTop (mkF m 39 #[.val (.long q1), .second, .val (.ref w_ALL), .val (.int (2 : Int32)), .val (.int (1 : Int32)), .val (.ref el1)] [(.int (lcmpW q1 (3 : Int64)))])) _
            refine XS.ifYes X11.here hx rfl (pc0 := 39) (pc' := 45) rfl (hb hby own_d1_39) rfl ((if0 _ _).trans (feq hc4).2) (by decide) (by decide) ?_
            show Steps p.tables e below (T11.setTop (mkF m 45 #[.val (.long q1), .second, .val (.ref w_ALL), .val (.int (2 : Int32)), .val (.int (1 : Int32)), .val (.ref el1)] [])) _
            refine XS.iinc X11.here hx rfl (hb hby own_d1_45) rfl (l' := #[.val (.long q1), .second, .val (.ref w_ALL), .val (.int (2 : Int32)), .val (.int (2 : Int32)), .val (.ref el1)]) rfl ?_
            show Steps p.tables e below (T11.setTop (mkF m 48 #[.val (.long q1), .second, .val (.ref w_ALL), .val (.int (2 : Int32)), .val (.int (2 : Int32)), .val (.ref el1)] [])) _
            refine XS.goto X11.here hx rfl (pc0 := 48) (pc' := 10) rfl (hb hby own_d1_48) (by decide) (by decide) ?_
            show Steps p.tables e below (T11.setTop (mkF m 10 #[.val (.long q1), .second, .val (.ref w_ALL), .val (.int (2 : Int32)), .val (.int (2 : Int32)), .val (.ref el1)] [])) _
            refine XS.iload X11.here hx rfl (hb hby own_d1_10) rfl ?_
            show Steps p.tables e below (T11.setTop (mkF m 12 #[.val (.long q1), .second, .val (.ref w_ALL), .val (.int (2 : Int32)), .val (.int (2 : Int32)), .val (.ref el1)] [(.int (2 : Int32))])) _
            refine XS.iloadN X11.here hx rfl (hb hby own_d1_12) rfl ?_
            show Steps p.tables e below (T11.setTop (mkF m 13 #[.val (.long q1), .second, .val (.ref w_ALL), .val (.int (2 : Int32)), .val (.int (2 : Int32)), .val (.ref el1)] [(.int (2 : Int32)), (.int (2 : Int32))])) _
            refine XS.icmpYes X11.here hx rfl (pc0 := 13) (pc' := 51) rfl (hb hby own_d1_13) rfl (flt (by decide : ¬ ((2 : Int32) < (2 : Int32)))).2.1 (by decide) (by decide) ?_
            show Steps p.tables e below (T11.setTop (mkF m 51 #[.val (.long q1), .second, .val (.ref w_ALL), .val (.int (2 : Int32)), .val (.int (2 : Int32)), .val (.ref el1)] [])) _
            refine XS.aconstNull X11.here hx rfl (hb hby own_d1_51) ?_
            show Steps p.tables e below (T11.setTop (mkF m 52 #[.val (.long q1), .second, .val (.ref w_ALL), .val (.int (2 : Int32)), .val (.int (2 : Int32)), .val (.ref el1)] [.null])) _
            jvm_step X11.here [X11.here.top, hx, (hb hby own_d1_52), X11.method', Bd.returns, Value.isRef, FieldType.isReference]
            first | (intro acts; rw [hr _ acts rfl rfl rfl]) | rw [hr _ _ rfl rfl rfl]
            exact Steps.refl _
          · show own_Q1 Z q1 k_w_ALL el0 el1 w_ALL h0 n0 _ T11.heap _
            rw [e11]
            exact ⟨(by rw [own_f1, if_neg hc1, if_neg hc2, if_neg hc3, if_neg hc4]), N0, rfl⟩
-- body 0
theorem own_ef0 (m : MethodId) (x0 : Int64) (x1 : Int32) : entryFrame m #[(.long x0), (.int x1)] maxLocals = mkF m 0 #[.val (.long x0), .second, .val (.int x1), .unset, .unset, .unset, .unset] [] := by first | (simp [entryFrame, mkF, argsToLocals, Value.category, maxLocals]; done) | rfl
def own_f0 (q1 : Int64) (p2 : Int32) : Int32 := if (p2 &&& (1 : Int32)) = (0 : Int32) then (if (lcmpW q1 (0 : Int64)) = (0 : Int32) then (1 : Int32)
      else if (lcmpW q1 (1 : Int64)) = (0 : Int32) then (1 : Int32)
        else if (lcmpW q1 (2 : Int64)) = (0 : Int32) then (1 : Int32)
          else if (lcmpW q1 (3 : Int64)) = (0 : Int32) then (1 : Int32)
            else (1 : Int32))
    else if (lcmpW ((q1 &&& (7 : Int64)) - (2 : Int64)) (0 : Int64)) = (0 : Int32) then (1 : Int32)
      else if (lcmpW ((q1 &&& (7 : Int64)) - (2 : Int64)) (1 : Int64)) = (0 : Int32) then (1 : Int32)
        else if (lcmpW ((q1 &&& (7 : Int64)) - (2 : Int64)) (2 : Int64)) = (0 : Int32) then (1 : Int32)
          else if (lcmpW ((q1 &&& (7 : Int64)) - (2 : Int64)) (3 : Int64)) = (0 : Int32) then (1 : Int32)
            else (1 : Int32)
def own_Q0 (Z : State) (q1 : Int64) (p2 : Int32) (k_w_ALL : ClassId) (el0 : Addr) (el1 : Addr) (w_ALL : Addr) (h0 : Heap) (n0 : Nat) (v : Option Value) (h : Heap) (L : List Loc) : Prop := v = some (.int (own_f0 q1 p2)) ∧ Fr n0 L
set_option maxRecDepth 65536 in
set_option maxHeartbeats 40000000 in
theorem own_rm0 (l : Launch) (Z : State) (a0 : Array Value) (hw : ∀ d ∈ tables_1, d.before a0 Z = true) (ws : List Jvm.Cond) (q1 : Int64) (p2 : Int32) (k_w_ALL : ClassId) (el0 : Addr) (el1 : Addr) (w_ALL : Addr) (h0 : Heap) (n0 : Nat) (Z0 : n0 ≤ h0.size) (V_w_ALL : Arv Z h0 w_ALL k_w_ALL (.object "com/example/wirefold/wirefold/binary/Framing") (2 : Int32) [(.ref el0), (.ref el1)] .null) (S_ALL : Sta Z h0 "com/example/wirefold/wirefold/binary/Framing" "ALL" "[Lcom/example/wirefold/wirefold/binary/Framing;" (.ref w_ALL)) (F_requestIndicator_el0 : Fld Z h0 el0 "com/example/wirefold/wirefold/binary/Framing" "requestIndicator" "J" (.long (0 : Int64))) (F_responseIndicator_el0 : Fld Z h0 el0 "com/example/wirefold/wirefold/binary/Framing" "responseIndicator" "J" (.long (1 : Int64))) (F_requestIndicator_el1 : Fld Z h0 el1 "com/example/wirefold/wirefold/binary/Framing" "requestIndicator" "J" (.long (2 : Int64))) (F_responseIndicator_el1 : Fld Z h0 el1 "com/example/wirefold/wirefold/binary/Framing" "responseIndicator" "J" (.long (3 : Int64))) (S_KNOWN_LENGTH : Sta Z h0 "com/example/wirefold/wirefold/binary/Framing" "KNOWN_LENGTH" "Lcom/example/wirefold/wirefold/binary/Framing;" (.ref el0)) (S_INDETERMINATE_LENGTH : Sta Z h0 "com/example/wirefold/wirefold/binary/Framing" "INDETERMINATE_LENGTH" "Lcom/example/wirefold/wirefold/binary/Framing;" (.ref el1)) :
    MetFree l x (head1 (Jvm.Cond.code x code maxLocals ret :: ws) room_1) (fun a U => a = #[(.long q1), (.int p2)] ∧ Z.Warmed39 U.vm ∧ U.heap = h0) (fun _ _ _ _ _ => True) (fun _ U o U' => ∃ v L, o = .returned v ∧ own_Q0 Z q1 p2 k_w_ALL el0 el1 w_ALL h0 n0 v U'.heap L ∧ FrameEnd U o U' L room_1.cells room_1.slots) := by
  refine MetFree.of_bodySF (plainFor_of_name own_pn32) hisR ?_
  intro p e s m args below meth c s₁ Bd hml0 hP hK
  obtain ⟨rfl, hZ, hh⟩ := hP
  have hx := Bd.exec
  have hby := Bd.bytes
  have hml : c.maxLocals = 7 := hml0
  have hown : s.vm.findClass "com/example/wirefold/wirefold/binary/FramingWithIndicatorPinLaw" = some m.cls := findClass_of_methodNamed Bd.named
  have hnm := (name_of_methodNamed Bd.named Bd.method).1
  have X0 : Stand p l e room_1 s m #[(.long q1), (.int p2)] below meth c s₁ [] 0 0 := Stand.of_body Bd
  have e0 : s₁.heap = h0 := by rw [← hh, Bd.state]; rfl
  have N0 := Fr.nil n0
  have pre0 : ∀ t, Steps p.tables e below (s₁.setTop (mkF m 0 #[.val (.long q1), .second, .val (.int p2), .unset, .unset, .unset, .unset] [])) t → Steps p.tables e below (s₁.setTop (entryFrame m #[(.long q1), (.int p2)] maxLocals)) t := fun t k => castTop (own_ef0 m q1 p2) k
  have k1 : ∀ t, Steps p.tables e below (s₁.setTop (mkF m 3 #[.val (.long q1), .second, .val (.int p2), .unset, .unset, .unset, .unset] [(.int (p2 &&& (1 : Int32)))])) t → Steps p.tables e below (s₁.setTop (entryFrame m #[(.long q1), (.int p2)] maxLocals)) t := by
    intro t kt
    refine pre0 t ?_
    show Steps p.tables e below (s₁.setTop (mkF m 0 #[.val (.long q1), .second, .val (.int p2), .unset, .unset, .unset, .unset] [])) _
    refine XS.iloadN X0.here hx rfl (hb hby at_0) rfl ?_
    show Steps p.tables e below (s₁.setTop (mkF m 1 #[.val (.long q1), .second, .val (.int p2), .unset, .unset, .unset, .unset] [(.int p2)])) _
    refine XS.iconst X0.here hx rfl (hb hby at_1) ?_
    show Steps p.tables e below (s₁.setTop (mkF m 2 #[.val (.long q1), .second, .val (.int p2), .unset, .unset, .unset, .unset] [(.int (1 : Int32)), (.int p2)])) _
    refine XS.iand X0.here hx rfl (hb hby at_2) rfl ?_
    exact kt
  by_cases hc1 : (p2 &&& (1 : Int32)) = (0 : Int32)
  ·
    obtain ⟨v2, _, ⟨T2, L2, k2, n2⟩, -, X2, ⟨Lc2, hQ2, l2, y2, z2⟩, st2⟩ := Jvm.LawKit.callS X0 hx (y := (⟨"com/example/wirefold/wirefold/binary/Framing", "withIndicator", "(J)Lcom/example/wirefold/wirefold/binary/Framing;"⟩ : MethodName)) hown (mvT hZ (hw _ (List.mem_of_getElem? (i := 0) rfl))) (mvT hZ (hw _ (List.mem_of_getElem? (i := 1) rfl))) (mvT hZ (hw _ (List.mem_of_getElem? (i := 2) rfl))) (mvT hZ (hw _ (List.mem_of_getElem? (i := 3) rfl))) (by decide) (backOf (W := 0) (own_rm1 l Z a0 hw [] q1 k_w_ALL el0 el1 w_ALL h0 n0 Z0 V_w_ALL S_ALL F_requestIndicator_el0 F_responseIndicator_el0 F_requestIndicator_el1 F_responseIndicator_el1) hZ (hw _ (List.mem_of_getElem? (i := 3) rfl)) (hw _ (List.mem_of_getElem? (i := 2) rfl)) (by decide) (by decide)) (g := (mkF m 21 #[.val (.long q1), .second, .val (.int p2), .val (.long q1), .second, .unset, .unset] [(.long q1)])) rfl (by rw [hml]; rfl) (argsL := [(.long q1)]) (rest := []) (lenOf own_pd31 rfl) rfl (by show 2 * 0 + _ ≤ _; exact Nat.le_of_eq rfl) (hb hby at_21) (fun _ _ => ⟨rfl, e0, (by decide : 0 + 0 ≤ _), (by decide : 0 + 0 ≤ _)⟩)
    dsimp only [Pt.U, Pt.locs, Pt.cells, Pt.slots] at X2 l2 y2 z2 st2 hQ2
    subst l2 y2 z2
    obtain ⟨hv2, N2q, e2⟩ := hQ2
    have N3 := Fr.app N0 N2q
    by_cases hc2 : (lcmpW q1 (0 : Int64)) = (0 : Int32)
    ·
      have hw4 : v2 = some (.ref el0) := hv2.trans (by rw [own_f1, if_pos hc2])
      subst hw4
      obtain ⟨T5, X5, e5, st5⟩ := getS2 X2 hx hZ hown (host := "") (Or.inl (hw _ (List.mem_of_getElem? (i := 17) rfl))) Via.refl e2 S_KNOWN_LENGTH (g := (mkF m 38 #[.val (.long q1), .second, .val (.int p2), .val (.long q1), .second, .val (.ref el0), .unset] [])) rfl (hb hby at_38)
      obtain ⟨fs, hr, hrun, hended, hW, hsame⟩ := X5.leave (v := some (.int (1 : Int32))) (fun h => by rw [Bd.returns] at h; cases h)
      refine ⟨_, _, k1 _ ?_, hrun, hended, _, _, rfl, ?_, ⟨_, rfl⟩, hW, hsame.mono (by decide) (by decide)⟩
      · show Steps p.tables e below (s₁.setTop (mkF m 3 #[.val (.long q1), .second, .val (.int p2), .unset, .unset, .unset, .unset] [(.int (p2 &&& (1 : Int32)))])) _
        refine XS.ifNo X0.here hx rfl (hb hby at_3) rfl ((if0 _ _).trans (teq hc1).2) ?_
        show Steps p.tables e below (s₁.setTop (mkF m 6 #[.val (.long q1), .second, .val (.int p2), .unset, .unset, .unset, .unset] [])) _
        refine XS.lloadN X0.here hx rfl (hb hby at_6) rfl ?_
        show Steps p.tables e below (s₁.setTop (mkF m 7 #[.val (.long q1), .second, .val (.int p2), .unset, .unset, .unset, .unset] [(.long q1)])) _
        refine XS.goto X0.here hx rfl (pc0 := 7) (pc' := 19) rfl (hb hby at_7) (by decide) (by decide) ?_
        show Steps p.tables e below (s₁.setTop (mkF m 19 #[.val (.long q1), .second, .val (.int p2), .unset, .unset, .unset, .unset] [(.long q1)])) _
        refine XS.lstoreN X0.here hx rfl (hb hby at_19) rfl (l' := #[.val (.long q1), .second, .val (.int p2), .val (.long q1), .second, .unset, .unset]) rfl ?_
        show Steps p.tables e below (s₁.setTop (mkF m 20 #[.val (.long q1), .second, .val (.int p2), .val (.long q1), .second, .unset, .unset] [])) _
        refine XS.lloadN X0.here hx rfl (hb hby at_20) rfl ?_
        show Steps p.tables e below (s₁.setTop (mkF m 21 #[.val (.long q1), .second, .val (.int p2), .val (.long q1), .second, .unset, .unset] [(.long q1)])) _
        refine st2 _ ?_
        show Steps p.tables e below (T2.setTop (mkF m 24 #[.val (.long q1), .second, .val (.int p2), .val (.long q1), .second, .unset, .unset] [(.ref el0)])) _
        refine XS.astore X2.here hx rfl (hb hby at_24) rfl rfl (l' := #[.val (.long q1), .second, .val (.int p2), .val (.long q1), .second, .val (.ref el0), .unset]) rfl ?_
        show Steps p.tables e below (T2.setTop (mkF m 26 #[.val (.long q1), .second, .val (.int p2), .val (.long q1), .second, .val (.ref el0), .unset] [])) _
        refine XS.lloadN X2.here hx rfl (hb hby at_26) rfl ?_
        show Steps p.tables e below (T2.setTop (mkF m 27 #[.val (.long q1), .second, .val (.int p2), .val (.long q1), .second, .val (.ref el0), .unset] [(.long q1)])) _
        refine XS.lconst X2.here hx rfl (hb hby at_27) ?_
        show Steps p.tables e below (T2.setTop (mkF m 28 #[.val (.long q1), .second, .val (.int p2), .val (.long q1), .second, .val (.ref el0), .unset] [(.long (0 : Int64)), (.long q1)])) _
        refine XS.lcmp X2.here hx rfl (hb hby at_28) rfl ?_
        show Steps p.tables e below (T2.setTop (mkF m 29 #[.val (.long q1), .second, .val (.int p2), .val (.long q1), .second, .val (.ref el0), .unset] [(.int (lcmpW q1 (0 : Int64)))])) _
        refine XS.ifYes X2.here hx rfl (pc0 := 29) (pc' := 38) rfl (hb hby at_29) rfl ((if0 _ _).trans (teq hc2).1) (by decide) (by decide) ?_
        show Steps p.tables e below (T2.setTop (mkF m 38 #[.val (.long q1), .second, .val (.int p2), .val (.long q1), .second, .val (.ref el0), .unset] [])) _
        refine st5 _ ?_
        show Steps p.tables e below (T5.setTop (mkF m 41 #[.val (.long q1), .second, .val (.int p2), .val (.long q1), .second, .val (.ref el0), .unset] [(.ref el0)])) _
        refine XS.astore X5.here hx rfl (hb hby at_41) rfl rfl (l' := #[.val (.long q1), .second, .val (.int p2), .val (.long q1), .second, .val (.ref el0), .val (.ref el0)]) rfl ?_
        show Steps p.tables e below (T5.setTop (mkF m 43 #[.val (.long q1), .second, .val (.int p2), .val (.long q1), .second, .val (.ref el0), .val (.ref el0)] [])) _
        refine XS.goto X5.here hx rfl (pc0 := 43) (pc' := 73) rfl (hb hby at_43) (by decide) (by decide) ?_
        show Steps p.tables e below (T5.setTop (mkF m 73 #[.val (.long q1), .second, .val (.int p2), .val (.long q1), .second, .val (.ref el0), .val (.ref el0)] [])) _
        refine XS.aload X5.here hx rfl (hb hby at_73) rfl rfl ?_
        show Steps p.tables e below (T5.setTop (mkF m 75 #[.val (.long q1), .second, .val (.int p2), .val (.long q1), .second, .val (.ref el0), .val (.ref el0)] [(.ref el0)])) _
        refine XS.aload X5.here hx rfl (hb hby at_75) rfl rfl ?_
        show Steps p.tables e below (T5.setTop (mkF m 77 #[.val (.long q1), .second, .val (.int p2), .val (.long q1), .second, .val (.ref el0), .val (.ref el0)] [(.ref el0), (.ref el0)])) _
        refine Jvm.RoadKit.acmp (g := (mkF m 77 #[.val (.long q1), .second, .val (.int p2), .val (.long q1), .second, .val (.ref el0), .val (.ref el0)] [(.ref el0), (.ref el0)])) X5 hx rfl rfl rfl (pc0 := 77) (pc' := 80) (same := true) rfl (hb hby at_77) rfl (decide_eq_true rfl) (by decide) (by decide) ?_
        show Steps p.tables e below (T5.setTop (mkF m 80 #[.val (.long q1), .second, .val (.int p2), .val (.long q1), .second, .val (.ref el0), .val (.ref el0)] [])) _
        refine XS.iconst X5.here hx rfl (hb hby at_80) ?_
        show Steps p.tables e below (T5.setTop (mkF m 81 #[.val (.long q1), .second, .val (.int p2), .val (.long q1), .second, .val (.ref el0), .val (.ref el0)] [(.int (1 : Int32))])) _
        refine XS.goto X5.here hx rfl (pc0 := 81) (pc' := 85) rfl (hb hby at_81) (by decide) (by decide) ?_
        show Steps p.tables e below (T5.setTop (mkF m 85 #[.val (.long q1), .second, .val (.int p2), .val (.long q1), .second, .val (.ref el0), .val (.ref el0)] [(.int (1 : Int32))])) _
        exact retN X5 hx (t := .boolean) Bd.returns (by simp) (hb hby at_85) hr
      · show own_Q0 Z q1 p2 k_w_ALL el0 el1 w_ALL h0 n0 _ T5.heap _
        rw [e5]
        exact ⟨(by rw [own_f0, if_pos hc1, if_pos hc2]), N3⟩
    ·
      by_cases hc3 : (lcmpW q1 (1 : Int64)) = (0 : Int32)
      ·
        have hw6 : v2 = some (.ref el0) := hv2.trans (by rw [own_f1, if_neg hc2, if_pos hc3])
        subst hw6
        obtain ⟨T7, X7, e7, st7⟩ := getS2 X2 hx hZ hown (host := "") (Or.inl (hw _ (List.mem_of_getElem? (i := 17) rfl))) Via.refl e2 S_KNOWN_LENGTH (g := (mkF m 38 #[.val (.long q1), .second, .val (.int p2), .val (.long q1), .second, .val (.ref el0), .unset] [])) rfl (hb hby at_38)
        obtain ⟨fs, hr, hrun, hended, hW, hsame⟩ := X7.leave (v := some (.int (1 : Int32))) (fun h => by rw [Bd.returns] at h; cases h)
        refine ⟨_, _, k1 _ ?_, hrun, hended, _, _, rfl, ?_, ⟨_, rfl⟩, hW, hsame.mono (by decide) (by decide)⟩
        · show Steps p.tables e below (s₁.setTop (mkF m 3 #[.val (.long q1), .second, .val (.int p2), .unset, .unset, .unset, .unset] [(.int (p2 &&& (1 : Int32)))])) _
          refine XS.ifNo X0.here hx rfl (hb hby at_3) rfl ((if0 _ _).trans (teq hc1).2) ?_
          show Steps p.tables e below (s₁.setTop (mkF m 6 #[.val (.long q1), .second, .val (.int p2), .unset, .unset, .unset, .unset] [])) _
          refine XS.lloadN X0.here hx rfl (hb hby at_6) rfl ?_
          show Steps p.tables e below (s₁.setTop (mkF m 7 #[.val (.long q1), .second, .val (.int p2), .unset, .unset, .unset, .unset] [(.long q1)])) _
          refine XS.goto X0.here hx rfl (pc0 := 7) (pc' := 19) rfl (hb hby at_7) (by decide) (by decide) ?_
          show Steps p.tables e below (s₁.setTop (mkF m 19 #[.val (.long q1), .second, .val (.int p2), .unset, .unset, .unset, .unset] [(.long q1)])) _
          refine XS.lstoreN X0.here hx rfl (hb hby at_19) rfl (l' := #[.val (.long q1), .second, .val (.int p2), .val (.long q1), .second, .unset, .unset]) rfl ?_
          show Steps p.tables e below (s₁.setTop (mkF m 20 #[.val (.long q1), .second, .val (.int p2), .val (.long q1), .second, .unset, .unset] [])) _
          refine XS.lloadN X0.here hx rfl (hb hby at_20) rfl ?_
          show Steps p.tables e below (s₁.setTop (mkF m 21 #[.val (.long q1), .second, .val (.int p2), .val (.long q1), .second, .unset, .unset] [(.long q1)])) _
          refine st2 _ ?_
          show Steps p.tables e below (T2.setTop (mkF m 24 #[.val (.long q1), .second, .val (.int p2), .val (.long q1), .second, .unset, .unset] [(.ref el0)])) _
          refine XS.astore X2.here hx rfl (hb hby at_24) rfl rfl (l' := #[.val (.long q1), .second, .val (.int p2), .val (.long q1), .second, .val (.ref el0), .unset]) rfl ?_
          show Steps p.tables e below (T2.setTop (mkF m 26 #[.val (.long q1), .second, .val (.int p2), .val (.long q1), .second, .val (.ref el0), .unset] [])) _
          refine XS.lloadN X2.here hx rfl (hb hby at_26) rfl ?_
          show Steps p.tables e below (T2.setTop (mkF m 27 #[.val (.long q1), .second, .val (.int p2), .val (.long q1), .second, .val (.ref el0), .unset] [(.long q1)])) _
          refine XS.lconst X2.here hx rfl (hb hby at_27) ?_
          show Steps p.tables e below (T2.setTop (mkF m 28 #[.val (.long q1), .second, .val (.int p2), .val (.long q1), .second, .val (.ref el0), .unset] [(.long (0 : Int64)), (.long q1)])) _
          refine XS.lcmp X2.here hx rfl (hb hby at_28) rfl ?_
          show Steps p.tables e below (T2.setTop (mkF m 29 #[.val (.long q1), .second, .val (.int p2), .val (.long q1), .second, .val (.ref el0), .unset] [(.int (lcmpW q1 (0 : Int64)))])) _
          refine XS.ifNo X2.here hx rfl (hb hby at_29) rfl ((if0 _ _).trans (feq hc2).1) ?_
          show Steps p.tables e below (T2.setTop (mkF m 32 #[.val (.long q1), .second, .val (.int p2), .val (.long q1), .second, .val (.ref el0), .unset] [])) _
          refine XS.lloadN X2.here hx rfl (hb hby at_32) rfl ?_
          show Steps p.tables e below (T2.setTop (mkF m 33 #[.val (.long q1), .second, .val (.int p2), .val (.long q1), .second, .val (.ref el0), .unset] [(.long q1)])) _
          refine XS.lconst X2.here hx rfl (hb hby at_33) ?_
          show Steps p.tables e below (T2.setTop (mkF m 34 #[.val (.long q1), .second, .val (.int p2), .val (.long q1), .second, .val (.ref el0), .unset] [(.long (1 : Int64)), (.long q1)])) _
          refine XS.lcmp X2.here hx rfl (hb hby at_34) rfl ?_
          show Steps p.tables e below (T2.setTop (mkF m 35 #[.val (.long q1), .second, .val (.int p2), .val (.long q1), .second, .val (.ref el0), .unset] [(.int (lcmpW q1 (1 : Int64)))])) _
          refine XS.ifNo X2.here hx rfl (hb hby at_35) rfl ((if0 _ _).trans (teq hc3).2) ?_
          show Steps p.tables e below (T2.setTop (mkF m 38 #[.val (.long q1), .second, .val (.int p2), .val (.long q1), .second, .val (.ref el0), .unset] [])) _
          refine st7 _ ?_
          show Steps p.tables e below (T7.setTop (mkF m 41 #[.val (.long q1), .second, .val (.int p2), .val (.long q1), .second, .val (.ref el0), .unset] [(.ref el0)])) _
          refine XS.astore X7.here hx rfl (hb hby at_41) rfl rfl (l' := #[.val (.long q1), .second, .val (.int p2), .val (.long q1), .second, .val (.ref el0), .val (.ref el0)]) rfl ?_
          show Steps p.tables e below (T7.setTop (mkF m 43 #[.val (.long q1), .second, .val (.int p2), .val (.long q1), .second, .val (.ref el0), .val (.ref el0)] [])) _
          refine XS.goto X7.here hx rfl (pc0 := 43) (pc' := 73) rfl (hb hby at_43) (by decide) (by decide) ?_
          show Steps p.tables e below (T7.setTop (mkF m 73 #[.val (.long q1), .second, .val (.int p2), .val (.long q1), .second, .val (.ref el0), .val (.ref el0)] [])) _
          refine XS.aload X7.here hx rfl (hb hby at_73) rfl rfl ?_
          show Steps p.tables e below (T7.setTop (mkF m 75 #[.val (.long q1), .second, .val (.int p2), .val (.long q1), .second, .val (.ref el0), .val (.ref el0)] [(.ref el0)])) _
          refine XS.aload X7.here hx rfl (hb hby at_75) rfl rfl ?_
          show Steps p.tables e below (T7.setTop (mkF m 77 #[.val (.long q1), .second, .val (.int p2), .val (.long q1), .second, .val (.ref el0), .val (.ref el0)] [(.ref el0), (.ref el0)])) _
          refine Jvm.RoadKit.acmp (g := (mkF m 77 #[.val (.long q1), .second, .val (.int p2), .val (.long q1), .second, .val (.ref el0), .val (.ref el0)] [(.ref el0), (.ref el0)])) X7 hx rfl rfl rfl (pc0 := 77) (pc' := 80) (same := true) rfl (hb hby at_77) rfl (decide_eq_true rfl) (by decide) (by decide) ?_
          show Steps p.tables e below (T7.setTop (mkF m 80 #[.val (.long q1), .second, .val (.int p2), .val (.long q1), .second, .val (.ref el0), .val (.ref el0)] [])) _
          refine XS.iconst X7.here hx rfl (hb hby at_80) ?_
          show Steps p.tables e below (T7.setTop (mkF m 81 #[.val (.long q1), .second, .val (.int p2), .val (.long q1), .second, .val (.ref el0), .val (.ref el0)] [(.int (1 : Int32))])) _
          refine XS.goto X7.here hx rfl (pc0 := 81) (pc' := 85) rfl (hb hby at_81) (by decide) (by decide) ?_
          show Steps p.tables e below (T7.setTop (mkF m 85 #[.val (.long q1), .second, .val (.int p2), .val (.long q1), .second, .val (.ref el0), .val (.ref el0)] [(.int (1 : Int32))])) _
          exact retN X7 hx (t := .boolean) Bd.returns (by simp) (hb hby at_85) hr
        · show own_Q0 Z q1 p2 k_w_ALL el0 el1 w_ALL h0 n0 _ T7.heap _
          rw [e7]
          exact ⟨(by rw [own_f0, if_pos hc1, if_neg hc2, if_pos hc3]), N3⟩
      ·
        by_cases hc4 : (lcmpW q1 (2 : Int64)) = (0 : Int32)
        ·
          have hw8 : v2 = some (.ref el1) := hv2.trans (by rw [own_f1, if_neg hc2, if_neg hc3, if_pos hc4])
          subst hw8
          obtain ⟨T9, X9, e9, st9⟩ := getS2 X2 hx hZ hown (host := "") (Or.inl (hw _ (List.mem_of_getElem? (i := 14) rfl))) Via.refl e2 S_INDETERMINATE_LENGTH (g := (mkF m 62 #[.val (.long q1), .second, .val (.int p2), .val (.long q1), .second, .val (.ref el1), .unset] [])) rfl (hb hby at_62)
          obtain ⟨fs, hr, hrun, hended, hW, hsame⟩ := X9.leave (v := some (.int (1 : Int32))) (fun h => by rw [Bd.returns] at h; cases h)
          refine ⟨_, _, k1 _ ?_, hrun, hended, _, _, rfl, ?_, ⟨_, rfl⟩, hW, hsame.mono (by decide) (by decide)⟩
          · show Steps p.tables e below (s₁.setTop (mkF m 3 #[.val (.long q1), .second, .val (.int p2), .unset, .unset, .unset, .unset] [(.int (p2 &&& (1 : Int32)))])) _
            refine XS.ifNo X0.here hx rfl (hb hby at_3) rfl ((if0 _ _).trans (teq hc1).2) ?_
            show Steps p.tables e below (s₁.setTop (mkF m 6 #[.val (.long q1), .second, .val (.int p2), .unset, .unset, .unset, .unset] [])) _
            refine XS.lloadN X0.here hx rfl (hb hby at_6) rfl ?_
            show Steps p.tables e below (s₁.setTop (mkF m 7 #[.val (.long q1), .second, .val (.int p2), .unset, .unset, .unset, .unset] [(.long q1)])) _
            refine XS.goto X0.here hx rfl (pc0 := 7) (pc' := 19) rfl (hb hby at_7) (by decide) (by decide) ?_
            show Steps p.tables e below (s₁.setTop (mkF m 19 #[.val (.long q1), .second, .val (.int p2), .unset, .unset, .unset, .unset] [(.long q1)])) _
            refine XS.lstoreN X0.here hx rfl (hb hby at_19) rfl (l' := #[.val (.long q1), .second, .val (.int p2), .val (.long q1), .second, .unset, .unset]) rfl ?_
            show Steps p.tables e below (s₁.setTop (mkF m 20 #[.val (.long q1), .second, .val (.int p2), .val (.long q1), .second, .unset, .unset] [])) _
            refine XS.lloadN X0.here hx rfl (hb hby at_20) rfl ?_
            show Steps p.tables e below (s₁.setTop (mkF m 21 #[.val (.long q1), .second, .val (.int p2), .val (.long q1), .second, .unset, .unset] [(.long q1)])) _
            refine st2 _ ?_
            show Steps p.tables e below (T2.setTop (mkF m 24 #[.val (.long q1), .second, .val (.int p2), .val (.long q1), .second, .unset, .unset] [(.ref el1)])) _
            refine XS.astore X2.here hx rfl (hb hby at_24) rfl rfl (l' := #[.val (.long q1), .second, .val (.int p2), .val (.long q1), .second, .val (.ref el1), .unset]) rfl ?_
            show Steps p.tables e below (T2.setTop (mkF m 26 #[.val (.long q1), .second, .val (.int p2), .val (.long q1), .second, .val (.ref el1), .unset] [])) _
            refine XS.lloadN X2.here hx rfl (hb hby at_26) rfl ?_
            show Steps p.tables e below (T2.setTop (mkF m 27 #[.val (.long q1), .second, .val (.int p2), .val (.long q1), .second, .val (.ref el1), .unset] [(.long q1)])) _
            refine XS.lconst X2.here hx rfl (hb hby at_27) ?_
            show Steps p.tables e below (T2.setTop (mkF m 28 #[.val (.long q1), .second, .val (.int p2), .val (.long q1), .second, .val (.ref el1), .unset] [(.long (0 : Int64)), (.long q1)])) _
            refine XS.lcmp X2.here hx rfl (hb hby at_28) rfl ?_
            show Steps p.tables e below (T2.setTop (mkF m 29 #[.val (.long q1), .second, .val (.int p2), .val (.long q1), .second, .val (.ref el1), .unset] [(.int (lcmpW q1 (0 : Int64)))])) _
            refine XS.ifNo X2.here hx rfl (hb hby at_29) rfl ((if0 _ _).trans (feq hc2).1) ?_
            show Steps p.tables e below (T2.setTop (mkF m 32 #[.val (.long q1), .second, .val (.int p2), .val (.long q1), .second, .val (.ref el1), .unset] [])) _
            refine XS.lloadN X2.here hx rfl (hb hby at_32) rfl ?_
            show Steps p.tables e below (T2.setTop (mkF m 33 #[.val (.long q1), .second, .val (.int p2), .val (.long q1), .second, .val (.ref el1), .unset] [(.long q1)])) _
            refine XS.lconst X2.here hx rfl (hb hby at_33) ?_
            show Steps p.tables e below (T2.setTop (mkF m 34 #[.val (.long q1), .second, .val (.int p2), .val (.long q1), .second, .val (.ref el1), .unset] [(.long (1 : Int64)), (.long q1)])) _
            refine XS.lcmp X2.here hx rfl (hb hby at_34) rfl ?_
            show Steps p.tables e below (T2.setTop (mkF m 35 #[.val (.long q1), .second, .val (.int p2), .val (.long q1), .second, .val (.ref el1), .unset] [(.int (lcmpW q1 (1 : Int64)))])) _
            refine XS.ifYes X2.here hx rfl (pc0 := 35) (pc' := 46) rfl (hb hby at_35) rfl ((if0 _ _).trans (feq hc3).2) (by decide) (by decide) ?_
            show Steps p.tables e below (T2.setTop (mkF m 46 #[.val (.long q1), .second, .val (.int p2), .val (.long q1), .second, .val (.ref el1), .unset] [])) _
            refine XS.lloadN X2.here hx rfl (hb hby at_46) rfl ?_
            show Steps p.tables e below (T2.setTop (mkF m 47 #[.val (.long q1), .second, .val (.int p2), .val (.long q1), .second, .val (.ref el1), .unset] [(.long q1)])) _
            refine X2.ldc2Long hx hown (mvT hZ (hw _ (List.mem_of_getElem? (i := 12) rfl))) (g := (mkF m 47 #[.val (.long q1), .second, .val (.int p2), .val (.long q1), .second, .val (.ref el1), .unset] [(.long q1)])) rfl (hb hby at_47) _ ?_
            show Steps p.tables e below (T2.setTop (mkF m 50 #[.val (.long q1), .second, .val (.int p2), .val (.long q1), .second, .val (.ref el1), .unset] [(.long (2 : Int64)), (.long q1)])) _
            refine XS.lcmp X2.here hx rfl (hb hby at_50) rfl ?_
            show Steps p.tables e below (T2.setTop (mkF m 51 #[.val (.long q1), .second, .val (.int p2), .val (.long q1), .second, .val (.ref el1), .unset] [(.int (lcmpW q1 (2 : Int64)))])) _
            refine XS.ifYes X2.here hx rfl (pc0 := 51) (pc' := 62) rfl (hb hby at_51) rfl ((if0 _ _).trans (teq hc4).1) (by decide) (by decide) ?_
            show Steps p.tables e below (T2.setTop (mkF m 62 #[.val (.long q1), .second, .val (.int p2), .val (.long q1), .second, .val (.ref el1), .unset] [])) _
            refine st9 _ ?_
            show Steps p.tables e below (T9.setTop (mkF m 65 #[.val (.long q1), .second, .val (.int p2), .val (.long q1), .second, .val (.ref el1), .unset] [(.ref el1)])) _
            refine XS.astore X9.here hx rfl (hb hby at_65) rfl rfl (l' := #[.val (.long q1), .second, .val (.int p2), .val (.long q1), .second, .val (.ref el1), .val (.ref el1)]) rfl ?_
            show Steps p.tables e below (T9.setTop (mkF m 67 #[.val (.long q1), .second, .val (.int p2), .val (.long q1), .second, .val (.ref el1), .val (.ref el1)] [])) _
            refine XS.goto X9.here hx rfl (pc0 := 67) (pc' := 73) rfl (hb hby at_67) (by decide) (by decide) ?_
            show Steps p.tables e below (T9.setTop (mkF m 73 #[.val (.long q1), .second, .val (.int p2), .val (.long q1), .second, .val (.ref el1), .val (.ref el1)] [])) _
            refine XS.aload X9.here hx rfl (hb hby at_73) rfl rfl ?_
            show Steps p.tables e below (T9.setTop (mkF m 75 #[.val (.long q1), .second, .val (.int p2), .val (.long q1), .second, .val (.ref el1), .val (.ref el1)] [(.ref el1)])) _
            refine XS.aload X9.here hx rfl (hb hby at_75) rfl rfl ?_
            show Steps p.tables e below (T9.setTop (mkF m 77 #[.val (.long q1), .second, .val (.int p2), .val (.long q1), .second, .val (.ref el1), .val (.ref el1)] [(.ref el1), (.ref el1)])) _
            refine Jvm.RoadKit.acmp (g := (mkF m 77 #[.val (.long q1), .second, .val (.int p2), .val (.long q1), .second, .val (.ref el1), .val (.ref el1)] [(.ref el1), (.ref el1)])) X9 hx rfl rfl rfl (pc0 := 77) (pc' := 80) (same := true) rfl (hb hby at_77) rfl (decide_eq_true rfl) (by decide) (by decide) ?_
            show Steps p.tables e below (T9.setTop (mkF m 80 #[.val (.long q1), .second, .val (.int p2), .val (.long q1), .second, .val (.ref el1), .val (.ref el1)] [])) _
            refine XS.iconst X9.here hx rfl (hb hby at_80) ?_
            show Steps p.tables e below (T9.setTop (mkF m 81 #[.val (.long q1), .second, .val (.int p2), .val (.long q1), .second, .val (.ref el1), .val (.ref el1)] [(.int (1 : Int32))])) _
            refine XS.goto X9.here hx rfl (pc0 := 81) (pc' := 85) rfl (hb hby at_81) (by decide) (by decide) ?_
            show Steps p.tables e below (T9.setTop (mkF m 85 #[.val (.long q1), .second, .val (.int p2), .val (.long q1), .second, .val (.ref el1), .val (.ref el1)] [(.int (1 : Int32))])) _
            exact retN X9 hx (t := .boolean) Bd.returns (by simp) (hb hby at_85) hr
          · show own_Q0 Z q1 p2 k_w_ALL el0 el1 w_ALL h0 n0 _ T9.heap _
            rw [e9]
            exact ⟨(by rw [own_f0, if_pos hc1, if_neg hc2, if_neg hc3, if_pos hc4]), N3⟩
        ·
          by_cases hc5 : (lcmpW q1 (3 : Int64)) = (0 : Int32)
          ·
            have hw10 : v2 = some (.ref el1) := hv2.trans (by rw [own_f1, if_neg hc2, if_neg hc3, if_neg hc4, if_pos hc5])
            subst hw10
            obtain ⟨T11, X11, e11, st11⟩ := getS2 X2 hx hZ hown (host := "") (Or.inl (hw _ (List.mem_of_getElem? (i := 14) rfl))) Via.refl e2 S_INDETERMINATE_LENGTH (g := (mkF m 62 #[.val (.long q1), .second, .val (.int p2), .val (.long q1), .second, .val (.ref el1), .unset] [])) rfl (hb hby at_62)
            obtain ⟨fs, hr, hrun, hended, hW, hsame⟩ := X11.leave (v := some (.int (1 : Int32))) (fun h => by rw [Bd.returns] at h; cases h)
            refine ⟨_, _, k1 _ ?_, hrun, hended, _, _, rfl, ?_, ⟨_, rfl⟩, hW, hsame.mono (by decide) (by decide)⟩
            · show Steps p.tables e below (s₁.setTop (mkF m 3 #[.val (.long q1), .second, .val (.int p2), .unset, .unset, .unset, .unset] [(.int (p2 &&& (1 : Int32)))])) _
              refine XS.ifNo X0.here hx rfl (hb hby at_3) rfl ((if0 _ _).trans (teq hc1).2) ?_
              show Steps p.tables e below (s₁.setTop (mkF m 6 #[.val (.long q1), .second, .val (.int p2), .unset, .unset, .unset, .unset] [])) _
              refine XS.lloadN X0.here hx rfl (hb hby at_6) rfl ?_
              show Steps p.tables e below (s₁.setTop (mkF m 7 #[.val (.long q1), .second, .val (.int p2), .unset, .unset, .unset, .unset] [(.long q1)])) _
              refine XS.goto X0.here hx rfl (pc0 := 7) (pc' := 19) rfl (hb hby at_7) (by decide) (by decide) ?_
              show Steps p.tables e below (s₁.setTop (mkF m 19 #[.val (.long q1), .second, .val (.int p2), .unset, .unset, .unset, .unset] [(.long q1)])) _
              refine XS.lstoreN X0.here hx rfl (hb hby at_19) rfl (l' := #[.val (.long q1), .second, .val (.int p2), .val (.long q1), .second, .unset, .unset]) rfl ?_
              show Steps p.tables e below (s₁.setTop (mkF m 20 #[.val (.long q1), .second, .val (.int p2), .val (.long q1), .second, .unset, .unset] [])) _
              refine XS.lloadN X0.here hx rfl (hb hby at_20) rfl ?_
              show Steps p.tables e below (s₁.setTop (mkF m 21 #[.val (.long q1), .second, .val (.int p2), .val (.long q1), .second, .unset, .unset] [(.long q1)])) _
              refine st2 _ ?_
              show Steps p.tables e below (T2.setTop (mkF m 24 #[.val (.long q1), .second, .val (.int p2), .val (.long q1), .second, .unset, .unset] [(.ref el1)])) _
              refine XS.astore X2.here hx rfl (hb hby at_24) rfl rfl (l' := #[.val (.long q1), .second, .val (.int p2), .val (.long q1), .second, .val (.ref el1), .unset]) rfl ?_
              show Steps p.tables e below (T2.setTop (mkF m 26 #[.val (.long q1), .second, .val (.int p2), .val (.long q1), .second, .val (.ref el1), .unset] [])) _
              refine XS.lloadN X2.here hx rfl (hb hby at_26) rfl ?_
              show Steps p.tables e below (T2.setTop (mkF m 27 #[.val (.long q1), .second, .val (.int p2), .val (.long q1), .second, .val (.ref el1), .unset] [(.long q1)])) _
              refine XS.lconst X2.here hx rfl (hb hby at_27) ?_
              show Steps p.tables e below (T2.setTop (mkF m 28 #[.val (.long q1), .second, .val (.int p2), .val (.long q1), .second, .val (.ref el1), .unset] [(.long (0 : Int64)), (.long q1)])) _
              refine XS.lcmp X2.here hx rfl (hb hby at_28) rfl ?_
              show Steps p.tables e below (T2.setTop (mkF m 29 #[.val (.long q1), .second, .val (.int p2), .val (.long q1), .second, .val (.ref el1), .unset] [(.int (lcmpW q1 (0 : Int64)))])) _
              refine XS.ifNo X2.here hx rfl (hb hby at_29) rfl ((if0 _ _).trans (feq hc2).1) ?_
              show Steps p.tables e below (T2.setTop (mkF m 32 #[.val (.long q1), .second, .val (.int p2), .val (.long q1), .second, .val (.ref el1), .unset] [])) _
              refine XS.lloadN X2.here hx rfl (hb hby at_32) rfl ?_
              show Steps p.tables e below (T2.setTop (mkF m 33 #[.val (.long q1), .second, .val (.int p2), .val (.long q1), .second, .val (.ref el1), .unset] [(.long q1)])) _
              refine XS.lconst X2.here hx rfl (hb hby at_33) ?_
              show Steps p.tables e below (T2.setTop (mkF m 34 #[.val (.long q1), .second, .val (.int p2), .val (.long q1), .second, .val (.ref el1), .unset] [(.long (1 : Int64)), (.long q1)])) _
              refine XS.lcmp X2.here hx rfl (hb hby at_34) rfl ?_
              show Steps p.tables e below (T2.setTop (mkF m 35 #[.val (.long q1), .second, .val (.int p2), .val (.long q1), .second, .val (.ref el1), .unset] [(.int (lcmpW q1 (1 : Int64)))])) _
              refine XS.ifYes X2.here hx rfl (pc0 := 35) (pc' := 46) rfl (hb hby at_35) rfl ((if0 _ _).trans (feq hc3).2) (by decide) (by decide) ?_
              show Steps p.tables e below (T2.setTop (mkF m 46 #[.val (.long q1), .second, .val (.int p2), .val (.long q1), .second, .val (.ref el1), .unset] [])) _
              refine XS.lloadN X2.here hx rfl (hb hby at_46) rfl ?_
              show Steps p.tables e below (T2.setTop (mkF m 47 #[.val (.long q1), .second, .val (.int p2), .val (.long q1), .second, .val (.ref el1), .unset] [(.long q1)])) _
              refine X2.ldc2Long hx hown (mvT hZ (hw _ (List.mem_of_getElem? (i := 12) rfl))) (g := (mkF m 47 #[.val (.long q1), .second, .val (.int p2), .val (.long q1), .second, .val (.ref el1), .unset] [(.long q1)])) rfl (hb hby at_47) _ ?_
              show Steps p.tables e below (T2.setTop (mkF m 50 #[.val (.long q1), .second, .val (.int p2), .val (.long q1), .second, .val (.ref el1), .unset] [(.long (2 : Int64)), (.long q1)])) _
              refine XS.lcmp X2.here hx rfl (hb hby at_50) rfl ?_
              show Steps p.tables e below (T2.setTop (mkF m 51 #[.val (.long q1), .second, .val (.int p2), .val (.long q1), .second, .val (.ref el1), .unset] [(.int (lcmpW q1 (2 : Int64)))])) _
              refine XS.ifNo X2.here hx rfl (hb hby at_51) rfl ((if0 _ _).trans (feq hc4).1) ?_
              show Steps p.tables e below (T2.setTop (mkF m 54 #[.val (.long q1), .second, .val (.int p2), .val (.long q1), .second, .val (.ref el1), .unset] [])) _
              refine XS.lloadN X2.here hx rfl (hb hby at_54) rfl ?_
              show Steps p.tables e below (T2.setTop (mkF m 55 #[.val (.long q1), .second, .val (.int p2), .val (.long q1), .second, .val (.ref el1), .unset] [(.long q1)])) _
              refine X2.ldc2Long hx hown (mvT hZ (hw _ (List.mem_of_getElem? (i := 13) rfl))) (g := (mkF m 55 #[.val (.long q1), .second, .val (.int p2), .val (.long q1), .second, .val (.ref el1), .unset] [(.long q1)])) rfl (hb hby at_55) _ ?_
              show Steps p.tables e below (T2.setTop (mkF m 58 #[.val (.long q1), .second, .val (.int p2), .val (.long q1), .second, .val (.ref el1), .unset] [(.long (3 : Int64)), (.long q1)])) _
              refine XS.lcmp X2.here hx rfl (hb hby at_58) rfl ?_
              show Steps p.tables e below (T2.setTop (mkF m 59 #[.val (.long q1), .second, .val (.int p2), .val (.long q1), .second, .val (.ref el1), .unset] [(.int (lcmpW q1 (3 : Int64)))])) _
              refine XS.ifNo X2.here hx rfl (hb hby at_59) rfl ((if0 _ _).trans (teq hc5).2) ?_
              show Steps p.tables e below (T2.setTop (mkF m 62 #[.val (.long q1), .second, .val (.int p2), .val (.long q1), .second, .val (.ref el1), .unset] [])) _
              refine st11 _ ?_
              show Steps p.tables e below (T11.setTop (mkF m 65 #[.val (.long q1), .second, .val (.int p2), .val (.long q1), .second, .val (.ref el1), .unset] [(.ref el1)])) _
              refine XS.astore X11.here hx rfl (hb hby at_65) rfl rfl (l' := #[.val (.long q1), .second, .val (.int p2), .val (.long q1), .second, .val (.ref el1), .val (.ref el1)]) rfl ?_
              show Steps p.tables e below (T11.setTop (mkF m 67 #[.val (.long q1), .second, .val (.int p2), .val (.long q1), .second, .val (.ref el1), .val (.ref el1)] [])) _
              refine XS.goto X11.here hx rfl (pc0 := 67) (pc' := 73) rfl (hb hby at_67) (by decide) (by decide) ?_
              show Steps p.tables e below (T11.setTop (mkF m 73 #[.val (.long q1), .second, .val (.int p2), .val (.long q1), .second, .val (.ref el1), .val (.ref el1)] [])) _
              refine XS.aload X11.here hx rfl (hb hby at_73) rfl rfl ?_
              show Steps p.tables e below (T11.setTop (mkF m 75 #[.val (.long q1), .second, .val (.int p2), .val (.long q1), .second, .val (.ref el1), .val (.ref el1)] [(.ref el1)])) _
              refine XS.aload X11.here hx rfl (hb hby at_75) rfl rfl ?_
              show Steps p.tables e below (T11.setTop (mkF m 77 #[.val (.long q1), .second, .val (.int p2), .val (.long q1), .second, .val (.ref el1), .val (.ref el1)] [(.ref el1), (.ref el1)])) _
              refine Jvm.RoadKit.acmp (g := (mkF m 77 #[.val (.long q1), .second, .val (.int p2), .val (.long q1), .second, .val (.ref el1), .val (.ref el1)] [(.ref el1), (.ref el1)])) X11 hx rfl rfl rfl (pc0 := 77) (pc' := 80) (same := true) rfl (hb hby at_77) rfl (decide_eq_true rfl) (by decide) (by decide) ?_
              show Steps p.tables e below (T11.setTop (mkF m 80 #[.val (.long q1), .second, .val (.int p2), .val (.long q1), .second, .val (.ref el1), .val (.ref el1)] [])) _
              refine XS.iconst X11.here hx rfl (hb hby at_80) ?_
              show Steps p.tables e below (T11.setTop (mkF m 81 #[.val (.long q1), .second, .val (.int p2), .val (.long q1), .second, .val (.ref el1), .val (.ref el1)] [(.int (1 : Int32))])) _
              refine XS.goto X11.here hx rfl (pc0 := 81) (pc' := 85) rfl (hb hby at_81) (by decide) (by decide) ?_
              show Steps p.tables e below (T11.setTop (mkF m 85 #[.val (.long q1), .second, .val (.int p2), .val (.long q1), .second, .val (.ref el1), .val (.ref el1)] [(.int (1 : Int32))])) _
              exact retN X11 hx (t := .boolean) Bd.returns (by simp) (hb hby at_85) hr
            · show own_Q0 Z q1 p2 k_w_ALL el0 el1 w_ALL h0 n0 _ T11.heap _
              rw [e11]
              exact ⟨(by rw [own_f0, if_pos hc1, if_neg hc2, if_neg hc3, if_neg hc4, if_pos hc5]), N3⟩
          ·
            have hw12 : v2 = some .null := hv2.trans (by rw [own_f1, if_neg hc2, if_neg hc3, if_neg hc4, if_neg hc5])
            subst hw12
            obtain ⟨fs, hr, hrun, hended, hW, hsame⟩ := X2.leave (v := some (.int (1 : Int32))) (fun h => by rw [Bd.returns] at h; cases h)
            refine ⟨_, _, k1 _ ?_, hrun, hended, _, _, rfl, ?_, ⟨_, rfl⟩, hW, hsame.mono (by decide) (by decide)⟩
            · show Steps p.tables e below (s₁.setTop (mkF m 3 #[.val (.long q1), .second, .val (.int p2), .unset, .unset, .unset, .unset] [(.int (p2 &&& (1 : Int32)))])) _
              refine XS.ifNo X0.here hx rfl (hb hby at_3) rfl ((if0 _ _).trans (teq hc1).2) ?_
              show Steps p.tables e below (s₁.setTop (mkF m 6 #[.val (.long q1), .second, .val (.int p2), .unset, .unset, .unset, .unset] [])) _
              refine XS.lloadN X0.here hx rfl (hb hby at_6) rfl ?_
              show Steps p.tables e below (s₁.setTop (mkF m 7 #[.val (.long q1), .second, .val (.int p2), .unset, .unset, .unset, .unset] [(.long q1)])) _
              refine XS.goto X0.here hx rfl (pc0 := 7) (pc' := 19) rfl (hb hby at_7) (by decide) (by decide) ?_
              show Steps p.tables e below (s₁.setTop (mkF m 19 #[.val (.long q1), .second, .val (.int p2), .unset, .unset, .unset, .unset] [(.long q1)])) _
              refine XS.lstoreN X0.here hx rfl (hb hby at_19) rfl (l' := #[.val (.long q1), .second, .val (.int p2), .val (.long q1), .second, .unset, .unset]) rfl ?_
              show Steps p.tables e below (s₁.setTop (mkF m 20 #[.val (.long q1), .second, .val (.int p2), .val (.long q1), .second, .unset, .unset] [])) _
              refine XS.lloadN X0.here hx rfl (hb hby at_20) rfl ?_
              show Steps p.tables e below (s₁.setTop (mkF m 21 #[.val (.long q1), .second, .val (.int p2), .val (.long q1), .second, .unset, .unset] [(.long q1)])) _
              refine st2 _ ?_
              show Steps p.tables e below (T2.setTop (mkF m 24 #[.val (.long q1), .second, .val (.int p2), .val (.long q1), .second, .unset, .unset] [.null])) _
              refine XS.astore X2.here hx rfl (hb hby at_24) rfl rfl (l' := #[.val (.long q1), .second, .val (.int p2), .val (.long q1), .second, .val .null, .unset]) rfl ?_
              show Steps p.tables e below (T2.setTop (mkF m 26 #[.val (.long q1), .second, .val (.int p2), .val (.long q1), .second, .val .null, .unset] [])) _
              refine XS.lloadN X2.here hx rfl (hb hby at_26) rfl ?_
              show Steps p.tables e below (T2.setTop (mkF m 27 #[.val (.long q1), .second, .val (.int p2), .val (.long q1), .second, .val .null, .unset] [(.long q1)])) _
              refine XS.lconst X2.here hx rfl (hb hby at_27) ?_
              show Steps p.tables e below (T2.setTop (mkF m 28 #[.val (.long q1), .second, .val (.int p2), .val (.long q1), .second, .val .null, .unset] [(.long (0 : Int64)), (.long q1)])) _
              refine XS.lcmp X2.here hx rfl (hb hby at_28) rfl ?_
              show Steps p.tables e below (T2.setTop (mkF m 29 #[.val (.long q1), .second, .val (.int p2), .val (.long q1), .second, .val .null, .unset] [(.int (lcmpW q1 (0 : Int64)))])) _
              refine XS.ifNo X2.here hx rfl (hb hby at_29) rfl ((if0 _ _).trans (feq hc2).1) ?_
              show Steps p.tables e below (T2.setTop (mkF m 32 #[.val (.long q1), .second, .val (.int p2), .val (.long q1), .second, .val .null, .unset] [])) _
              refine XS.lloadN X2.here hx rfl (hb hby at_32) rfl ?_
              show Steps p.tables e below (T2.setTop (mkF m 33 #[.val (.long q1), .second, .val (.int p2), .val (.long q1), .second, .val .null, .unset] [(.long q1)])) _
              refine XS.lconst X2.here hx rfl (hb hby at_33) ?_
              show Steps p.tables e below (T2.setTop (mkF m 34 #[.val (.long q1), .second, .val (.int p2), .val (.long q1), .second, .val .null, .unset] [(.long (1 : Int64)), (.long q1)])) _
              refine XS.lcmp X2.here hx rfl (hb hby at_34) rfl ?_
              show Steps p.tables e below (T2.setTop (mkF m 35 #[.val (.long q1), .second, .val (.int p2), .val (.long q1), .second, .val .null, .unset] [(.int (lcmpW q1 (1 : Int64)))])) _
              refine XS.ifYes X2.here hx rfl (pc0 := 35) (pc' := 46) rfl (hb hby at_35) rfl ((if0 _ _).trans (feq hc3).2) (by decide) (by decide) ?_
              show Steps p.tables e below (T2.setTop (mkF m 46 #[.val (.long q1), .second, .val (.int p2), .val (.long q1), .second, .val .null, .unset] [])) _
              refine XS.lloadN X2.here hx rfl (hb hby at_46) rfl ?_
              show Steps p.tables e below (T2.setTop (mkF m 47 #[.val (.long q1), .second, .val (.int p2), .val (.long q1), .second, .val .null, .unset] [(.long q1)])) _
              refine X2.ldc2Long hx hown (mvT hZ (hw _ (List.mem_of_getElem? (i := 12) rfl))) (g := (mkF m 47 #[.val (.long q1), .second, .val (.int p2), .val (.long q1), .second, .val .null, .unset] [(.long q1)])) rfl (hb hby at_47) _ ?_
              show Steps p.tables e below (T2.setTop (mkF m 50 #[.val (.long q1), .second, .val (.int p2), .val (.long q1), .second, .val .null, .unset] [(.long (2 : Int64)), (.long q1)])) _
              refine XS.lcmp X2.here hx rfl (hb hby at_50) rfl ?_
              show Steps p.tables e below (T2.setTop (mkF m 51 #[.val (.long q1), .second, .val (.int p2), .val (.long q1), .second, .val .null, .unset] [(.int (lcmpW q1 (2 : Int64)))])) _
              refine XS.ifNo X2.here hx rfl (hb hby at_51) rfl ((if0 _ _).trans (feq hc4).1) ?_
              show Steps p.tables e below (T2.setTop (mkF m 54 #[.val (.long q1), .second, .val (.int p2), .val (.long q1), .second, .val .null, .unset] [])) _
              refine XS.lloadN X2.here hx rfl (hb hby at_54) rfl ?_
              show Steps p.tables e below (T2.setTop (mkF m 55 #[.val (.long q1), .second, .val (.int p2), .val (.long q1), .second, .val .null, .unset] [(.long q1)])) _
              refine X2.ldc2Long hx hown (mvT hZ (hw _ (List.mem_of_getElem? (i := 13) rfl))) (g := (mkF m 55 #[.val (.long q1), .second, .val (.int p2), .val (.long q1), .second, .val .null, .unset] [(.long q1)])) rfl (hb hby at_55) _ ?_
              show Steps p.tables e below (T2.setTop (mkF m 58 #[.val (.long q1), .second, .val (.int p2), .val (.long q1), .second, .val .null, .unset] [(.long (3 : Int64)), (.long q1)])) _
              refine XS.lcmp X2.here hx rfl (hb hby at_58) rfl ?_
              show Steps p.tables e below (T2.setTop (mkF m 59 #[.val (.long q1), .second, .val (.int p2), .val (.long q1), .second, .val .null, .unset] [(.int (lcmpW q1 (3 : Int64)))])) _
              refine XS.ifYes X2.here hx rfl (pc0 := 59) (pc' := 70) rfl (hb hby at_59) rfl ((if0 _ _).trans (feq hc5).2) (by decide) (by decide) ?_
              show Steps p.tables e below (T2.setTop (mkF m 70 #[.val (.long q1), .second, .val (.int p2), .val (.long q1), .second, .val .null, .unset] [])) _
              refine XS.aconstNull X2.here hx rfl (hb hby at_70) ?_
              show Steps p.tables e below (T2.setTop (mkF m 71 #[.val (.long q1), .second, .val (.int p2), .val (.long q1), .second, .val .null, .unset] [.null])) _
              refine XS.astore X2.here hx rfl (hb hby at_71) rfl rfl (l' := #[.val (.long q1), .second, .val (.int p2), .val (.long q1), .second, .val .null, .val .null]) rfl ?_
              show Steps p.tables e below (T2.setTop (mkF m 73 #[.val (.long q1), .second, .val (.int p2), .val (.long q1), .second, .val .null, .val .null] [])) _
              refine XS.aload X2.here hx rfl (hb hby at_73) rfl rfl ?_
              show Steps p.tables e below (T2.setTop (mkF m 75 #[.val (.long q1), .second, .val (.int p2), .val (.long q1), .second, .val .null, .val .null] [.null])) _
              refine XS.aload X2.here hx rfl (hb hby at_75) rfl rfl ?_
              show Steps p.tables e below (T2.setTop (mkF m 77 #[.val (.long q1), .second, .val (.int p2), .val (.long q1), .second, .val .null, .val .null] [.null, .null])) _
              refine Jvm.RoadKit.acmp (g := (mkF m 77 #[.val (.long q1), .second, .val (.int p2), .val (.long q1), .second, .val .null, .val .null] [.null, .null])) X2 hx rfl rfl rfl (pc0 := 77) (pc' := 80) (same := true) rfl (hb hby at_77) rfl (decide_eq_true rfl) (by decide) (by decide) ?_
              show Steps p.tables e below (T2.setTop (mkF m 80 #[.val (.long q1), .second, .val (.int p2), .val (.long q1), .second, .val .null, .val .null] [])) _
              refine XS.iconst X2.here hx rfl (hb hby at_80) ?_
              show Steps p.tables e below (T2.setTop (mkF m 81 #[.val (.long q1), .second, .val (.int p2), .val (.long q1), .second, .val .null, .val .null] [(.int (1 : Int32))])) _
              refine XS.goto X2.here hx rfl (pc0 := 81) (pc' := 85) rfl (hb hby at_81) (by decide) (by decide) ?_
              show Steps p.tables e below (T2.setTop (mkF m 85 #[.val (.long q1), .second, .val (.int p2), .val (.long q1), .second, .val .null, .val .null] [(.int (1 : Int32))])) _
              exact retN X2 hx (t := .boolean) Bd.returns (by simp) (hb hby at_85) hr
            · show own_Q0 Z q1 p2 k_w_ALL el0 el1 w_ALL h0 n0 _ T2.heap _
              rw [e2]
              exact ⟨(by rw [own_f0, if_pos hc1, if_neg hc2, if_neg hc3, if_neg hc4, if_neg hc5]), N3⟩
  ·
    obtain ⟨v13, _, ⟨T13, L13, k13, n13⟩, -, X13, ⟨Lc13, hQ13, l13, y13, z13⟩, st13⟩ := Jvm.LawKit.callS X0 hx (y := (⟨"com/example/wirefold/wirefold/binary/Framing", "withIndicator", "(J)Lcom/example/wirefold/wirefold/binary/Framing;"⟩ : MethodName)) hown (mvT hZ (hw _ (List.mem_of_getElem? (i := 0) rfl))) (mvT hZ (hw _ (List.mem_of_getElem? (i := 1) rfl))) (mvT hZ (hw _ (List.mem_of_getElem? (i := 2) rfl))) (mvT hZ (hw _ (List.mem_of_getElem? (i := 3) rfl))) (by decide) (backOf (W := 0) (own_rm1 l Z a0 hw [] ((q1 &&& (7 : Int64)) - (2 : Int64)) k_w_ALL el0 el1 w_ALL h0 n0 Z0 V_w_ALL S_ALL F_requestIndicator_el0 F_responseIndicator_el0 F_requestIndicator_el1 F_responseIndicator_el1) hZ (hw _ (List.mem_of_getElem? (i := 3) rfl)) (hw _ (List.mem_of_getElem? (i := 2) rfl)) (by decide) (by decide)) (g := (mkF m 21 #[.val (.long q1), .second, .val (.int p2), .val (.long ((q1 &&& (7 : Int64)) - (2 : Int64))), .second, .unset, .unset] [(.long ((q1 &&& (7 : Int64)) - (2 : Int64)))])) rfl (by rw [hml]; rfl) (argsL := [(.long ((q1 &&& (7 : Int64)) - (2 : Int64)))]) (rest := []) (lenOf own_pd31 rfl) rfl (by show 2 * 0 + _ ≤ _; exact Nat.le_of_eq rfl) (hb hby at_21) (fun _ _ => ⟨rfl, e0, (by decide : 0 + 0 ≤ _), (by decide : 0 + 0 ≤ _)⟩)
    dsimp only [Pt.U, Pt.locs, Pt.cells, Pt.slots] at X13 l13 y13 z13 st13 hQ13
    subst l13 y13 z13
    obtain ⟨hv13, N13q, e13⟩ := hQ13
    have N14 := Fr.app N0 N13q
    by_cases hc6 : (lcmpW ((q1 &&& (7 : Int64)) - (2 : Int64)) (0 : Int64)) = (0 : Int32)
    ·
      have hw15 : v13 = some (.ref el0) := hv13.trans (by rw [own_f1, if_pos hc6])
      subst hw15
      obtain ⟨T16, X16, e16, st16⟩ := getS2 X13 hx hZ hown (host := "") (Or.inl (hw _ (List.mem_of_getElem? (i := 17) rfl))) Via.refl e13 S_KNOWN_LENGTH (g := (mkF m 38 #[.val (.long q1), .second, .val (.int p2), .val (.long ((q1 &&& (7 : Int64)) - (2 : Int64))), .second, .val (.ref el0), .unset] [])) rfl (hb hby at_38)
      obtain ⟨fs, hr, hrun, hended, hW, hsame⟩ := X16.leave (v := some (.int (1 : Int32))) (fun h => by rw [Bd.returns] at h; cases h)
      refine ⟨_, _, k1 _ ?_, hrun, hended, _, _, rfl, ?_, ⟨_, rfl⟩, hW, hsame.mono (by decide) (by decide)⟩
      · show Steps p.tables e below (s₁.setTop (mkF m 3 #[.val (.long q1), .second, .val (.int p2), .unset, .unset, .unset, .unset] [(.int (p2 &&& (1 : Int32)))])) _
        refine XS.ifYes X0.here hx rfl (pc0 := 3) (pc' := 10) rfl (hb hby at_3) rfl ((if0 _ _).trans (feq hc1).2) (by decide) (by decide) ?_
        show Steps p.tables e below (s₁.setTop (mkF m 10 #[.val (.long q1), .second, .val (.int p2), .unset, .unset, .unset, .unset] [])) _
        refine XS.lloadN X0.here hx rfl (hb hby at_10) rfl ?_
        show Steps p.tables e below (s₁.setTop (mkF m 11 #[.val (.long q1), .second, .val (.int p2), .unset, .unset, .unset, .unset] [(.long q1)])) _
        refine X0.ldc2Long hx hown (mvT hZ (hw _ (List.mem_of_getElem? (i := 16) rfl))) (g := (mkF m 11 #[.val (.long q1), .second, .val (.int p2), .unset, .unset, .unset, .unset] [(.long q1)])) rfl (hb hby at_11) _ ?_
        show Steps p.tables e below (s₁.setTop (mkF m 14 #[.val (.long q1), .second, .val (.int p2), .unset, .unset, .unset, .unset] [(.long (7 : Int64)), (.long q1)])) _
        refine XS.land X0.here hx rfl (hb hby at_14) rfl ?_
        show Steps p.tables e below (s₁.setTop (mkF m 15 #[.val (.long q1), .second, .val (.int p2), .unset, .unset, .unset, .unset] [(.long (q1 &&& (7 : Int64)))])) _
        refine X0.ldc2Long hx hown (mvT hZ (hw _ (List.mem_of_getElem? (i := 12) rfl))) (g := (mkF m 15 #[.val (.long q1), .second, .val (.int p2), .unset, .unset, .unset, .unset] [(.long (q1 &&& (7 : Int64)))])) rfl (hb hby at_15) _ ?_
        show Steps p.tables e below (s₁.setTop (mkF m 18 #[.val (.long q1), .second, .val (.int p2), .unset, .unset, .unset, .unset] [(.long (2 : Int64)), (.long (q1 &&& (7 : Int64)))])) _
        refine XS.lsub X0.here hx rfl (hb hby at_18) rfl ?_
        show Steps p.tables e below (s₁.setTop (mkF m 19 #[.val (.long q1), .second, .val (.int p2), .unset, .unset, .unset, .unset] [(.long ((q1 &&& (7 : Int64)) - (2 : Int64)))])) _
        refine XS.lstoreN X0.here hx rfl (hb hby at_19) rfl (l' := #[.val (.long q1), .second, .val (.int p2), .val (.long ((q1 &&& (7 : Int64)) - (2 : Int64))), .second, .unset, .unset]) rfl ?_
        show Steps p.tables e below (s₁.setTop (mkF m 20 #[.val (.long q1), .second, .val (.int p2), .val (.long ((q1 &&& (7 : Int64)) - (2 : Int64))), .second, .unset, .unset] [])) _
        refine XS.lloadN X0.here hx rfl (hb hby at_20) rfl ?_
        show Steps p.tables e below (s₁.setTop (mkF m 21 #[.val (.long q1), .second, .val (.int p2), .val (.long ((q1 &&& (7 : Int64)) - (2 : Int64))), .second, .unset, .unset] [(.long ((q1 &&& (7 : Int64)) - (2 : Int64)))])) _
        refine st13 _ ?_
        show Steps p.tables e below (T13.setTop (mkF m 24 #[.val (.long q1), .second, .val (.int p2), .val (.long ((q1 &&& (7 : Int64)) - (2 : Int64))), .second, .unset, .unset] [(.ref el0)])) _
        refine XS.astore X13.here hx rfl (hb hby at_24) rfl rfl (l' := #[.val (.long q1), .second, .val (.int p2), .val (.long ((q1 &&& (7 : Int64)) - (2 : Int64))), .second, .val (.ref el0), .unset]) rfl ?_
        show Steps p.tables e below (T13.setTop (mkF m 26 #[.val (.long q1), .second, .val (.int p2), .val (.long ((q1 &&& (7 : Int64)) - (2 : Int64))), .second, .val (.ref el0), .unset] [])) _
        refine XS.lloadN X13.here hx rfl (hb hby at_26) rfl ?_
        show Steps p.tables e below (T13.setTop (mkF m 27 #[.val (.long q1), .second, .val (.int p2), .val (.long ((q1 &&& (7 : Int64)) - (2 : Int64))), .second, .val (.ref el0), .unset] [(.long ((q1 &&& (7 : Int64)) - (2 : Int64)))])) _
        refine XS.lconst X13.here hx rfl (hb hby at_27) ?_
        show Steps p.tables e below (T13.setTop (mkF m 28 #[.val (.long q1), .second, .val (.int p2), .val (.long ((q1 &&& (7 : Int64)) - (2 : Int64))), .second, .val (.ref el0), .unset] [(.long (0 : Int64)), (.long ((q1 &&& (7 : Int64)) - (2 : Int64)))])) _
        refine XS.lcmp X13.here hx rfl (hb hby at_28) rfl ?_
        show Steps p.tables e below (T13.setTop (mkF m 29 #[.val (.long q1), .second, .val (.int p2), .val (.long ((q1 &&& (7 : Int64)) - (2 : Int64))), .second, .val (.ref el0), .unset] [(.int (lcmpW ((q1 &&& (7 : Int64)) - (2 : Int64)) (0 : Int64)))])) _
        refine XS.ifYes X13.here hx rfl (pc0 := 29) (pc' := 38) rfl (hb hby at_29) rfl ((if0 _ _).trans (teq hc6).1) (by decide) (by decide) ?_
        show Steps p.tables e below (T13.setTop (mkF m 38 #[.val (.long q1), .second, .val (.int p2), .val (.long ((q1 &&& (7 : Int64)) - (2 : Int64))), .second, .val (.ref el0), .unset] [])) _
        refine st16 _ ?_
        show Steps p.tables e below (T16.setTop (mkF m 41 #[.val (.long q1), .second, .val (.int p2), .val (.long ((q1 &&& (7 : Int64)) - (2 : Int64))), .second, .val (.ref el0), .unset] [(.ref el0)])) _
        refine XS.astore X16.here hx rfl (hb hby at_41) rfl rfl (l' := #[.val (.long q1), .second, .val (.int p2), .val (.long ((q1 &&& (7 : Int64)) - (2 : Int64))), .second, .val (.ref el0), .val (.ref el0)]) rfl ?_
        show Steps p.tables e below (T16.setTop (mkF m 43 #[.val (.long q1), .second, .val (.int p2), .val (.long ((q1 &&& (7 : Int64)) - (2 : Int64))), .second, .val (.ref el0), .val (.ref el0)] [])) _
        refine XS.goto X16.here hx rfl (pc0 := 43) (pc' := 73) rfl (hb hby at_43) (by decide) (by decide) ?_
        show Steps p.tables e below (T16.setTop (mkF m 73 #[.val (.long q1), .second, .val (.int p2), .val (.long ((q1 &&& (7 : Int64)) - (2 : Int64))), .second, .val (.ref el0), .val (.ref el0)] [])) _
        refine XS.aload X16.here hx rfl (hb hby at_73) rfl rfl ?_
        show Steps p.tables e below (T16.setTop (mkF m 75 #[.val (.long q1), .second, .val (.int p2), .val (.long ((q1 &&& (7 : Int64)) - (2 : Int64))), .second, .val (.ref el0), .val (.ref el0)] [(.ref el0)])) _
        refine XS.aload X16.here hx rfl (hb hby at_75) rfl rfl ?_
        show Steps p.tables e below (T16.setTop (mkF m 77 #[.val (.long q1), .second, .val (.int p2), .val (.long ((q1 &&& (7 : Int64)) - (2 : Int64))), .second, .val (.ref el0), .val (.ref el0)] [(.ref el0), (.ref el0)])) _
        refine Jvm.RoadKit.acmp (g := (mkF m 77 #[.val (.long q1), .second, .val (.int p2), .val (.long ((q1 &&& (7 : Int64)) - (2 : Int64))), .second, .val (.ref el0), .val (.ref el0)] [(.ref el0), (.ref el0)])) X16 hx rfl rfl rfl (pc0 := 77) (pc' := 80) (same := true) rfl (hb hby at_77) rfl (decide_eq_true rfl) (by decide) (by decide) ?_
        show Steps p.tables e below (T16.setTop (mkF m 80 #[.val (.long q1), .second, .val (.int p2), .val (.long ((q1 &&& (7 : Int64)) - (2 : Int64))), .second, .val (.ref el0), .val (.ref el0)] [])) _
        refine XS.iconst X16.here hx rfl (hb hby at_80) ?_
        show Steps p.tables e below (T16.setTop (mkF m 81 #[.val (.long q1), .second, .val (.int p2), .val (.long ((q1 &&& (7 : Int64)) - (2 : Int64))), .second, .val (.ref el0), .val (.ref el0)] [(.int (1 : Int32))])) _
        refine XS.goto X16.here hx rfl (pc0 := 81) (pc' := 85) rfl (hb hby at_81) (by decide) (by decide) ?_
        show Steps p.tables e below (T16.setTop (mkF m 85 #[.val (.long q1), .second, .val (.int p2), .val (.long ((q1 &&& (7 : Int64)) - (2 : Int64))), .second, .val (.ref el0), .val (.ref el0)] [(.int (1 : Int32))])) _
        exact retN X16 hx (t := .boolean) Bd.returns (by simp) (hb hby at_85) hr
      · show own_Q0 Z q1 p2 k_w_ALL el0 el1 w_ALL h0 n0 _ T16.heap _
        rw [e16]
        exact ⟨(by rw [own_f0, if_neg hc1, if_pos hc6]), N14⟩
    ·
      by_cases hc7 : (lcmpW ((q1 &&& (7 : Int64)) - (2 : Int64)) (1 : Int64)) = (0 : Int32)
      ·
        have hw17 : v13 = some (.ref el0) := hv13.trans (by rw [own_f1, if_neg hc6, if_pos hc7])
        subst hw17
        obtain ⟨T18, X18, e18, st18⟩ := getS2 X13 hx hZ hown (host := "") (Or.inl (hw _ (List.mem_of_getElem? (i := 17) rfl))) Via.refl e13 S_KNOWN_LENGTH (g := (mkF m 38 #[.val (.long q1), .second, .val (.int p2), .val (.long ((q1 &&& (7 : Int64)) - (2 : Int64))), .second, .val (.ref el0), .unset] [])) rfl (hb hby at_38)
        obtain ⟨fs, hr, hrun, hended, hW, hsame⟩ := X18.leave (v := some (.int (1 : Int32))) (fun h => by rw [Bd.returns] at h; cases h)
        refine ⟨_, _, k1 _ ?_, hrun, hended, _, _, rfl, ?_, ⟨_, rfl⟩, hW, hsame.mono (by decide) (by decide)⟩
        · show Steps p.tables e below (s₁.setTop (mkF m 3 #[.val (.long q1), .second, .val (.int p2), .unset, .unset, .unset, .unset] [(.int (p2 &&& (1 : Int32)))])) _
          refine XS.ifYes X0.here hx rfl (pc0 := 3) (pc' := 10) rfl (hb hby at_3) rfl ((if0 _ _).trans (feq hc1).2) (by decide) (by decide) ?_
          show Steps p.tables e below (s₁.setTop (mkF m 10 #[.val (.long q1), .second, .val (.int p2), .unset, .unset, .unset, .unset] [])) _
          refine XS.lloadN X0.here hx rfl (hb hby at_10) rfl ?_
          show Steps p.tables e below (s₁.setTop (mkF m 11 #[.val (.long q1), .second, .val (.int p2), .unset, .unset, .unset, .unset] [(.long q1)])) _
          refine X0.ldc2Long hx hown (mvT hZ (hw _ (List.mem_of_getElem? (i := 16) rfl))) (g := (mkF m 11 #[.val (.long q1), .second, .val (.int p2), .unset, .unset, .unset, .unset] [(.long q1)])) rfl (hb hby at_11) _ ?_
          show Steps p.tables e below (s₁.setTop (mkF m 14 #[.val (.long q1), .second, .val (.int p2), .unset, .unset, .unset, .unset] [(.long (7 : Int64)), (.long q1)])) _
          refine XS.land X0.here hx rfl (hb hby at_14) rfl ?_
          show Steps p.tables e below (s₁.setTop (mkF m 15 #[.val (.long q1), .second, .val (.int p2), .unset, .unset, .unset, .unset] [(.long (q1 &&& (7 : Int64)))])) _
          refine X0.ldc2Long hx hown (mvT hZ (hw _ (List.mem_of_getElem? (i := 12) rfl))) (g := (mkF m 15 #[.val (.long q1), .second, .val (.int p2), .unset, .unset, .unset, .unset] [(.long (q1 &&& (7 : Int64)))])) rfl (hb hby at_15) _ ?_
          show Steps p.tables e below (s₁.setTop (mkF m 18 #[.val (.long q1), .second, .val (.int p2), .unset, .unset, .unset, .unset] [(.long (2 : Int64)), (.long (q1 &&& (7 : Int64)))])) _
          refine XS.lsub X0.here hx rfl (hb hby at_18) rfl ?_
          show Steps p.tables e below (s₁.setTop (mkF m 19 #[.val (.long q1), .second, .val (.int p2), .unset, .unset, .unset, .unset] [(.long ((q1 &&& (7 : Int64)) - (2 : Int64)))])) _
          refine XS.lstoreN X0.here hx rfl (hb hby at_19) rfl (l' := #[.val (.long q1), .second, .val (.int p2), .val (.long ((q1 &&& (7 : Int64)) - (2 : Int64))), .second, .unset, .unset]) rfl ?_
          show Steps p.tables e below (s₁.setTop (mkF m 20 #[.val (.long q1), .second, .val (.int p2), .val (.long ((q1 &&& (7 : Int64)) - (2 : Int64))), .second, .unset, .unset] [])) _
          refine XS.lloadN X0.here hx rfl (hb hby at_20) rfl ?_
          show Steps p.tables e below (s₁.setTop (mkF m 21 #[.val (.long q1), .second, .val (.int p2), .val (.long ((q1 &&& (7 : Int64)) - (2 : Int64))), .second, .unset, .unset] [(.long ((q1 &&& (7 : Int64)) - (2 : Int64)))])) _
          refine st13 _ ?_
          show Steps p.tables e below (T13.setTop (mkF m 24 #[.val (.long q1), .second, .val (.int p2), .val (.long ((q1 &&& (7 : Int64)) - (2 : Int64))), .second, .unset, .unset] [(.ref el0)])) _
          refine XS.astore X13.here hx rfl (hb hby at_24) rfl rfl (l' := #[.val (.long q1), .second, .val (.int p2), .val (.long ((q1 &&& (7 : Int64)) - (2 : Int64))), .second, .val (.ref el0), .unset]) rfl ?_
          show Steps p.tables e below (T13.setTop (mkF m 26 #[.val (.long q1), .second, .val (.int p2), .val (.long ((q1 &&& (7 : Int64)) - (2 : Int64))), .second, .val (.ref el0), .unset] [])) _
          refine XS.lloadN X13.here hx rfl (hb hby at_26) rfl ?_
          show Steps p.tables e below (T13.setTop (mkF m 27 #[.val (.long q1), .second, .val (.int p2), .val (.long ((q1 &&& (7 : Int64)) - (2 : Int64))), .second, .val (.ref el0), .unset] [(.long ((q1 &&& (7 : Int64)) - (2 : Int64)))])) _
          refine XS.lconst X13.here hx rfl (hb hby at_27) ?_
          show Steps p.tables e below (T13.setTop (mkF m 28 #[.val (.long q1), .second, .val (.int p2), .val (.long ((q1 &&& (7 : Int64)) - (2 : Int64))), .second, .val (.ref el0), .unset] [(.long (0 : Int64)), (.long ((q1 &&& (7 : Int64)) - (2 : Int64)))])) _
          refine XS.lcmp X13.here hx rfl (hb hby at_28) rfl ?_
          show Steps p.tables e below (T13.setTop (mkF m 29 #[.val (.long q1), .second, .val (.int p2), .val (.long ((q1 &&& (7 : Int64)) - (2 : Int64))), .second, .val (.ref el0), .unset] [(.int (lcmpW ((q1 &&& (7 : Int64)) - (2 : Int64)) (0 : Int64)))])) _
          refine XS.ifNo X13.here hx rfl (hb hby at_29) rfl ((if0 _ _).trans (feq hc6).1) ?_
          show Steps p.tables e below (T13.setTop (mkF m 32 #[.val (.long q1), .second, .val (.int p2), .val (.long ((q1 &&& (7 : Int64)) - (2 : Int64))), .second, .val (.ref el0), .unset] [])) _
          refine XS.lloadN X13.here hx rfl (hb hby at_32) rfl ?_
          show Steps p.tables e below (T13.setTop (mkF m 33 #[.val (.long q1), .second, .val (.int p2), .val (.long ((q1 &&& (7 : Int64)) - (2 : Int64))), .second, .val (.ref el0), .unset] [(.long ((q1 &&& (7 : Int64)) - (2 : Int64)))])) _
          refine XS.lconst X13.here hx rfl (hb hby at_33) ?_
          show Steps p.tables e below (T13.setTop (mkF m 34 #[.val (.long q1), .second, .val (.int p2), .val (.long ((q1 &&& (7 : Int64)) - (2 : Int64))), .second, .val (.ref el0), .unset] [(.long (1 : Int64)), (.long ((q1 &&& (7 : Int64)) - (2 : Int64)))])) _
          refine XS.lcmp X13.here hx rfl (hb hby at_34) rfl ?_
          show Steps p.tables e below (T13.setTop (mkF m 35 #[.val (.long q1), .second, .val (.int p2), .val (.long ((q1 &&& (7 : Int64)) - (2 : Int64))), .second, .val (.ref el0), .unset] [(.int (lcmpW ((q1 &&& (7 : Int64)) - (2 : Int64)) (1 : Int64)))])) _
          refine XS.ifNo X13.here hx rfl (hb hby at_35) rfl ((if0 _ _).trans (teq hc7).2) ?_
          show Steps p.tables e below (T13.setTop (mkF m 38 #[.val (.long q1), .second, .val (.int p2), .val (.long ((q1 &&& (7 : Int64)) - (2 : Int64))), .second, .val (.ref el0), .unset] [])) _
          refine st18 _ ?_
          show Steps p.tables e below (T18.setTop (mkF m 41 #[.val (.long q1), .second, .val (.int p2), .val (.long ((q1 &&& (7 : Int64)) - (2 : Int64))), .second, .val (.ref el0), .unset] [(.ref el0)])) _
          refine XS.astore X18.here hx rfl (hb hby at_41) rfl rfl (l' := #[.val (.long q1), .second, .val (.int p2), .val (.long ((q1 &&& (7 : Int64)) - (2 : Int64))), .second, .val (.ref el0), .val (.ref el0)]) rfl ?_
          show Steps p.tables e below (T18.setTop (mkF m 43 #[.val (.long q1), .second, .val (.int p2), .val (.long ((q1 &&& (7 : Int64)) - (2 : Int64))), .second, .val (.ref el0), .val (.ref el0)] [])) _
          refine XS.goto X18.here hx rfl (pc0 := 43) (pc' := 73) rfl (hb hby at_43) (by decide) (by decide) ?_
          show Steps p.tables e below (T18.setTop (mkF m 73 #[.val (.long q1), .second, .val (.int p2), .val (.long ((q1 &&& (7 : Int64)) - (2 : Int64))), .second, .val (.ref el0), .val (.ref el0)] [])) _
          refine XS.aload X18.here hx rfl (hb hby at_73) rfl rfl ?_
          show Steps p.tables e below (T18.setTop (mkF m 75 #[.val (.long q1), .second, .val (.int p2), .val (.long ((q1 &&& (7 : Int64)) - (2 : Int64))), .second, .val (.ref el0), .val (.ref el0)] [(.ref el0)])) _
          refine XS.aload X18.here hx rfl (hb hby at_75) rfl rfl ?_
          show Steps p.tables e below (T18.setTop (mkF m 77 #[.val (.long q1), .second, .val (.int p2), .val (.long ((q1 &&& (7 : Int64)) - (2 : Int64))), .second, .val (.ref el0), .val (.ref el0)] [(.ref el0), (.ref el0)])) _
          refine Jvm.RoadKit.acmp (g := (mkF m 77 #[.val (.long q1), .second, .val (.int p2), .val (.long ((q1 &&& (7 : Int64)) - (2 : Int64))), .second, .val (.ref el0), .val (.ref el0)] [(.ref el0), (.ref el0)])) X18 hx rfl rfl rfl (pc0 := 77) (pc' := 80) (same := true) rfl (hb hby at_77) rfl (decide_eq_true rfl) (by decide) (by decide) ?_
          show Steps p.tables e below (T18.setTop (mkF m 80 #[.val (.long q1), .second, .val (.int p2), .val (.long ((q1 &&& (7 : Int64)) - (2 : Int64))), .second, .val (.ref el0), .val (.ref el0)] [])) _
          refine XS.iconst X18.here hx rfl (hb hby at_80) ?_
          show Steps p.tables e below (T18.setTop (mkF m 81 #[.val (.long q1), .second, .val (.int p2), .val (.long ((q1 &&& (7 : Int64)) - (2 : Int64))), .second, .val (.ref el0), .val (.ref el0)] [(.int (1 : Int32))])) _
          refine XS.goto X18.here hx rfl (pc0 := 81) (pc' := 85) rfl (hb hby at_81) (by decide) (by decide) ?_
          show Steps p.tables e below (T18.setTop (mkF m 85 #[.val (.long q1), .second, .val (.int p2), .val (.long ((q1 &&& (7 : Int64)) - (2 : Int64))), .second, .val (.ref el0), .val (.ref el0)] [(.int (1 : Int32))])) _
          exact retN X18 hx (t := .boolean) Bd.returns (by simp) (hb hby at_85) hr
        · show own_Q0 Z q1 p2 k_w_ALL el0 el1 w_ALL h0 n0 _ T18.heap _
          rw [e18]
          exact ⟨(by rw [own_f0, if_neg hc1, if_neg hc6, if_pos hc7]), N14⟩
      ·
        by_cases hc8 : (lcmpW ((q1 &&& (7 : Int64)) - (2 : Int64)) (2 : Int64)) = (0 : Int32)
        ·
          have hw19 : v13 = some (.ref el1) := hv13.trans (by rw [own_f1, if_neg hc6, if_neg hc7, if_pos hc8])
          subst hw19
          obtain ⟨T20, X20, e20, st20⟩ := getS2 X13 hx hZ hown (host := "") (Or.inl (hw _ (List.mem_of_getElem? (i := 14) rfl))) Via.refl e13 S_INDETERMINATE_LENGTH (g := (mkF m 62 #[.val (.long q1), .second, .val (.int p2), .val (.long ((q1 &&& (7 : Int64)) - (2 : Int64))), .second, .val (.ref el1), .unset] [])) rfl (hb hby at_62)
          obtain ⟨fs, hr, hrun, hended, hW, hsame⟩ := X20.leave (v := some (.int (1 : Int32))) (fun h => by rw [Bd.returns] at h; cases h)
          refine ⟨_, _, k1 _ ?_, hrun, hended, _, _, rfl, ?_, ⟨_, rfl⟩, hW, hsame.mono (by decide) (by decide)⟩
          · show Steps p.tables e below (s₁.setTop (mkF m 3 #[.val (.long q1), .second, .val (.int p2), .unset, .unset, .unset, .unset] [(.int (p2 &&& (1 : Int32)))])) _
            refine XS.ifYes X0.here hx rfl (pc0 := 3) (pc' := 10) rfl (hb hby at_3) rfl ((if0 _ _).trans (feq hc1).2) (by decide) (by decide) ?_
            show Steps p.tables e below (s₁.setTop (mkF m 10 #[.val (.long q1), .second, .val (.int p2), .unset, .unset, .unset, .unset] [])) _
            refine XS.lloadN X0.here hx rfl (hb hby at_10) rfl ?_
            show Steps p.tables e below (s₁.setTop (mkF m 11 #[.val (.long q1), .second, .val (.int p2), .unset, .unset, .unset, .unset] [(.long q1)])) _
            refine X0.ldc2Long hx hown (mvT hZ (hw _ (List.mem_of_getElem? (i := 16) rfl))) (g := (mkF m 11 #[.val (.long q1), .second, .val (.int p2), .unset, .unset, .unset, .unset] [(.long q1)])) rfl (hb hby at_11) _ ?_
            show Steps p.tables e below (s₁.setTop (mkF m 14 #[.val (.long q1), .second, .val (.int p2), .unset, .unset, .unset, .unset] [(.long (7 : Int64)), (.long q1)])) _
            refine XS.land X0.here hx rfl (hb hby at_14) rfl ?_
            show Steps p.tables e below (s₁.setTop (mkF m 15 #[.val (.long q1), .second, .val (.int p2), .unset, .unset, .unset, .unset] [(.long (q1 &&& (7 : Int64)))])) _
            refine X0.ldc2Long hx hown (mvT hZ (hw _ (List.mem_of_getElem? (i := 12) rfl))) (g := (mkF m 15 #[.val (.long q1), .second, .val (.int p2), .unset, .unset, .unset, .unset] [(.long (q1 &&& (7 : Int64)))])) rfl (hb hby at_15) _ ?_
            show Steps p.tables e below (s₁.setTop (mkF m 18 #[.val (.long q1), .second, .val (.int p2), .unset, .unset, .unset, .unset] [(.long (2 : Int64)), (.long (q1 &&& (7 : Int64)))])) _
            refine XS.lsub X0.here hx rfl (hb hby at_18) rfl ?_
            show Steps p.tables e below (s₁.setTop (mkF m 19 #[.val (.long q1), .second, .val (.int p2), .unset, .unset, .unset, .unset] [(.long ((q1 &&& (7 : Int64)) - (2 : Int64)))])) _
            refine XS.lstoreN X0.here hx rfl (hb hby at_19) rfl (l' := #[.val (.long q1), .second, .val (.int p2), .val (.long ((q1 &&& (7 : Int64)) - (2 : Int64))), .second, .unset, .unset]) rfl ?_
            show Steps p.tables e below (s₁.setTop (mkF m 20 #[.val (.long q1), .second, .val (.int p2), .val (.long ((q1 &&& (7 : Int64)) - (2 : Int64))), .second, .unset, .unset] [])) _
            refine XS.lloadN X0.here hx rfl (hb hby at_20) rfl ?_
            show Steps p.tables e below (s₁.setTop (mkF m 21 #[.val (.long q1), .second, .val (.int p2), .val (.long ((q1 &&& (7 : Int64)) - (2 : Int64))), .second, .unset, .unset] [(.long ((q1 &&& (7 : Int64)) - (2 : Int64)))])) _
            refine st13 _ ?_
            show Steps p.tables e below (T13.setTop (mkF m 24 #[.val (.long q1), .second, .val (.int p2), .val (.long ((q1 &&& (7 : Int64)) - (2 : Int64))), .second, .unset, .unset] [(.ref el1)])) _
            refine XS.astore X13.here hx rfl (hb hby at_24) rfl rfl (l' := #[.val (.long q1), .second, .val (.int p2), .val (.long ((q1 &&& (7 : Int64)) - (2 : Int64))), .second, .val (.ref el1), .unset]) rfl ?_
            show Steps p.tables e below (T13.setTop (mkF m 26 #[.val (.long q1), .second, .val (.int p2), .val (.long ((q1 &&& (7 : Int64)) - (2 : Int64))), .second, .val (.ref el1), .unset] [])) _
            refine XS.lloadN X13.here hx rfl (hb hby at_26) rfl ?_
            show Steps p.tables e below (T13.setTop (mkF m 27 #[.val (.long q1), .second, .val (.int p2), .val (.long ((q1 &&& (7 : Int64)) - (2 : Int64))), .second, .val (.ref el1), .unset] [(.long ((q1 &&& (7 : Int64)) - (2 : Int64)))])) _
            refine XS.lconst X13.here hx rfl (hb hby at_27) ?_
            show Steps p.tables e below (T13.setTop (mkF m 28 #[.val (.long q1), .second, .val (.int p2), .val (.long ((q1 &&& (7 : Int64)) - (2 : Int64))), .second, .val (.ref el1), .unset] [(.long (0 : Int64)), (.long ((q1 &&& (7 : Int64)) - (2 : Int64)))])) _
            refine XS.lcmp X13.here hx rfl (hb hby at_28) rfl ?_
            show Steps p.tables e below (T13.setTop (mkF m 29 #[.val (.long q1), .second, .val (.int p2), .val (.long ((q1 &&& (7 : Int64)) - (2 : Int64))), .second, .val (.ref el1), .unset] [(.int (lcmpW ((q1 &&& (7 : Int64)) - (2 : Int64)) (0 : Int64)))])) _
            refine XS.ifNo X13.here hx rfl (hb hby at_29) rfl ((if0 _ _).trans (feq hc6).1) ?_
            show Steps p.tables e below (T13.setTop (mkF m 32 #[.val (.long q1), .second, .val (.int p2), .val (.long ((q1 &&& (7 : Int64)) - (2 : Int64))), .second, .val (.ref el1), .unset] [])) _
            refine XS.lloadN X13.here hx rfl (hb hby at_32) rfl ?_
            show Steps p.tables e below (T13.setTop (mkF m 33 #[.val (.long q1), .second, .val (.int p2), .val (.long ((q1 &&& (7 : Int64)) - (2 : Int64))), .second, .val (.ref el1), .unset] [(.long ((q1 &&& (7 : Int64)) - (2 : Int64)))])) _
            refine XS.lconst X13.here hx rfl (hb hby at_33) ?_
            show Steps p.tables e below (T13.setTop (mkF m 34 #[.val (.long q1), .second, .val (.int p2), .val (.long ((q1 &&& (7 : Int64)) - (2 : Int64))), .second, .val (.ref el1), .unset] [(.long (1 : Int64)), (.long ((q1 &&& (7 : Int64)) - (2 : Int64)))])) _
            refine XS.lcmp X13.here hx rfl (hb hby at_34) rfl ?_
            show Steps p.tables e below (T13.setTop (mkF m 35 #[.val (.long q1), .second, .val (.int p2), .val (.long ((q1 &&& (7 : Int64)) - (2 : Int64))), .second, .val (.ref el1), .unset] [(.int (lcmpW ((q1 &&& (7 : Int64)) - (2 : Int64)) (1 : Int64)))])) _
            refine XS.ifYes X13.here hx rfl (pc0 := 35) (pc' := 46) rfl (hb hby at_35) rfl ((if0 _ _).trans (feq hc7).2) (by decide) (by decide) ?_
            show Steps p.tables e below (T13.setTop (mkF m 46 #[.val (.long q1), .second, .val (.int p2), .val (.long ((q1 &&& (7 : Int64)) - (2 : Int64))), .second, .val (.ref el1), .unset] [])) _
            refine XS.lloadN X13.here hx rfl (hb hby at_46) rfl ?_
            show Steps p.tables e below (T13.setTop (mkF m 47 #[.val (.long q1), .second, .val (.int p2), .val (.long ((q1 &&& (7 : Int64)) - (2 : Int64))), .second, .val (.ref el1), .unset] [(.long ((q1 &&& (7 : Int64)) - (2 : Int64)))])) _
            refine X13.ldc2Long hx hown (mvT hZ (hw _ (List.mem_of_getElem? (i := 12) rfl))) (g := (mkF m 47 #[.val (.long q1), .second, .val (.int p2), .val (.long ((q1 &&& (7 : Int64)) - (2 : Int64))), .second, .val (.ref el1), .unset] [(.long ((q1 &&& (7 : Int64)) - (2 : Int64)))])) rfl (hb hby at_47) _ ?_
            show Steps p.tables e below (T13.setTop (mkF m 50 #[.val (.long q1), .second, .val (.int p2), .val (.long ((q1 &&& (7 : Int64)) - (2 : Int64))), .second, .val (.ref el1), .unset] [(.long (2 : Int64)), (.long ((q1 &&& (7 : Int64)) - (2 : Int64)))])) _
            refine XS.lcmp X13.here hx rfl (hb hby at_50) rfl ?_
            show Steps p.tables e below (T13.setTop (mkF m 51 #[.val (.long q1), .second, .val (.int p2), .val (.long ((q1 &&& (7 : Int64)) - (2 : Int64))), .second, .val (.ref el1), .unset] [(.int (lcmpW ((q1 &&& (7 : Int64)) - (2 : Int64)) (2 : Int64)))])) _
            refine XS.ifYes X13.here hx rfl (pc0 := 51) (pc' := 62) rfl (hb hby at_51) rfl ((if0 _ _).trans (teq hc8).1) (by decide) (by decide) ?_
            show Steps p.tables e below (T13.setTop (mkF m 62 #[.val (.long q1), .second, .val (.int p2), .val (.long ((q1 &&& (7 : Int64)) - (2 : Int64))), .second, .val (.ref el1), .unset] [])) _
            refine st20 _ ?_
            show Steps p.tables e below (T20.setTop (mkF m 65 #[.val (.long q1), .second, .val (.int p2), .val (.long ((q1 &&& (7 : Int64)) - (2 : Int64))), .second, .val (.ref el1), .unset] [(.ref el1)])) _
            refine XS.astore X20.here hx rfl (hb hby at_65) rfl rfl (l' := #[.val (.long q1), .second, .val (.int p2), .val (.long ((q1 &&& (7 : Int64)) - (2 : Int64))), .second, .val (.ref el1), .val (.ref el1)]) rfl ?_
            show Steps p.tables e below (T20.setTop (mkF m 67 #[.val (.long q1), .second, .val (.int p2), .val (.long ((q1 &&& (7 : Int64)) - (2 : Int64))), .second, .val (.ref el1), .val (.ref el1)] [])) _
            refine XS.goto X20.here hx rfl (pc0 := 67) (pc' := 73) rfl (hb hby at_67) (by decide) (by decide) ?_
            show Steps p.tables e below (T20.setTop (mkF m 73 #[.val (.long q1), .second, .val (.int p2), .val (.long ((q1 &&& (7 : Int64)) - (2 : Int64))), .second, .val (.ref el1), .val (.ref el1)] [])) _
            refine XS.aload X20.here hx rfl (hb hby at_73) rfl rfl ?_
            show Steps p.tables e below (T20.setTop (mkF m 75 #[.val (.long q1), .second, .val (.int p2), .val (.long ((q1 &&& (7 : Int64)) - (2 : Int64))), .second, .val (.ref el1), .val (.ref el1)] [(.ref el1)])) _
            refine XS.aload X20.here hx rfl (hb hby at_75) rfl rfl ?_
            show Steps p.tables e below (T20.setTop (mkF m 77 #[.val (.long q1), .second, .val (.int p2), .val (.long ((q1 &&& (7 : Int64)) - (2 : Int64))), .second, .val (.ref el1), .val (.ref el1)] [(.ref el1), (.ref el1)])) _
            refine Jvm.RoadKit.acmp (g := (mkF m 77 #[.val (.long q1), .second, .val (.int p2), .val (.long ((q1 &&& (7 : Int64)) - (2 : Int64))), .second, .val (.ref el1), .val (.ref el1)] [(.ref el1), (.ref el1)])) X20 hx rfl rfl rfl (pc0 := 77) (pc' := 80) (same := true) rfl (hb hby at_77) rfl (decide_eq_true rfl) (by decide) (by decide) ?_
            show Steps p.tables e below (T20.setTop (mkF m 80 #[.val (.long q1), .second, .val (.int p2), .val (.long ((q1 &&& (7 : Int64)) - (2 : Int64))), .second, .val (.ref el1), .val (.ref el1)] [])) _
            refine XS.iconst X20.here hx rfl (hb hby at_80) ?_
            show Steps p.tables e below (T20.setTop (mkF m 81 #[.val (.long q1), .second, .val (.int p2), .val (.long ((q1 &&& (7 : Int64)) - (2 : Int64))), .second, .val (.ref el1), .val (.ref el1)] [(.int (1 : Int32))])) _
            refine XS.goto X20.here hx rfl (pc0 := 81) (pc' := 85) rfl (hb hby at_81) (by decide) (by decide) ?_
            show Steps p.tables e below (T20.setTop (mkF m 85 #[.val (.long q1), .second, .val (.int p2), .val (.long ((q1 &&& (7 : Int64)) - (2 : Int64))), .second, .val (.ref el1), .val (.ref el1)] [(.int (1 : Int32))])) _
            exact retN X20 hx (t := .boolean) Bd.returns (by simp) (hb hby at_85) hr
          · show own_Q0 Z q1 p2 k_w_ALL el0 el1 w_ALL h0 n0 _ T20.heap _
            rw [e20]
            exact ⟨(by rw [own_f0, if_neg hc1, if_neg hc6, if_neg hc7, if_pos hc8]), N14⟩
        ·
          by_cases hc9 : (lcmpW ((q1 &&& (7 : Int64)) - (2 : Int64)) (3 : Int64)) = (0 : Int32)
          ·
            have hw21 : v13 = some (.ref el1) := hv13.trans (by rw [own_f1, if_neg hc6, if_neg hc7, if_neg hc8, if_pos hc9])
            subst hw21
            obtain ⟨T22, X22, e22, st22⟩ := getS2 X13 hx hZ hown (host := "") (Or.inl (hw _ (List.mem_of_getElem? (i := 14) rfl))) Via.refl e13 S_INDETERMINATE_LENGTH (g := (mkF m 62 #[.val (.long q1), .second, .val (.int p2), .val (.long ((q1 &&& (7 : Int64)) - (2 : Int64))), .second, .val (.ref el1), .unset] [])) rfl (hb hby at_62)
            obtain ⟨fs, hr, hrun, hended, hW, hsame⟩ := X22.leave (v := some (.int (1 : Int32))) (fun h => by rw [Bd.returns] at h; cases h)
            refine ⟨_, _, k1 _ ?_, hrun, hended, _, _, rfl, ?_, ⟨_, rfl⟩, hW, hsame.mono (by decide) (by decide)⟩
            · show Steps p.tables e below (s₁.setTop (mkF m 3 #[.val (.long q1), .second, .val (.int p2), .unset, .unset, .unset, .unset] [(.int (p2 &&& (1 : Int32)))])) _
              refine XS.ifYes X0.here hx rfl (pc0 := 3) (pc' := 10) rfl (hb hby at_3) rfl ((if0 _ _).trans (feq hc1).2) (by decide) (by decide) ?_
              show Steps p.tables e below (s₁.setTop (mkF m 10 #[.val (.long q1), .second, .val (.int p2), .unset, .unset, .unset, .unset] [])) _
              refine XS.lloadN X0.here hx rfl (hb hby at_10) rfl ?_
              show Steps p.tables e below (s₁.setTop (mkF m 11 #[.val (.long q1), .second, .val (.int p2), .unset, .unset, .unset, .unset] [(.long q1)])) _
              refine X0.ldc2Long hx hown (mvT hZ (hw _ (List.mem_of_getElem? (i := 16) rfl))) (g := (mkF m 11 #[.val (.long q1), .second, .val (.int p2), .unset, .unset, .unset, .unset] [(.long q1)])) rfl (hb hby at_11) _ ?_
              show Steps p.tables e below (s₁.setTop (mkF m 14 #[.val (.long q1), .second, .val (.int p2), .unset, .unset, .unset, .unset] [(.long (7 : Int64)), (.long q1)])) _
              refine XS.land X0.here hx rfl (hb hby at_14) rfl ?_
              show Steps p.tables e below (s₁.setTop (mkF m 15 #[.val (.long q1), .second, .val (.int p2), .unset, .unset, .unset, .unset] [(.long (q1 &&& (7 : Int64)))])) _
              refine X0.ldc2Long hx hown (mvT hZ (hw _ (List.mem_of_getElem? (i := 12) rfl))) (g := (mkF m 15 #[.val (.long q1), .second, .val (.int p2), .unset, .unset, .unset, .unset] [(.long (q1 &&& (7 : Int64)))])) rfl (hb hby at_15) _ ?_
              show Steps p.tables e below (s₁.setTop (mkF m 18 #[.val (.long q1), .second, .val (.int p2), .unset, .unset, .unset, .unset] [(.long (2 : Int64)), (.long (q1 &&& (7 : Int64)))])) _
              refine XS.lsub X0.here hx rfl (hb hby at_18) rfl ?_
              show Steps p.tables e below (s₁.setTop (mkF m 19 #[.val (.long q1), .second, .val (.int p2), .unset, .unset, .unset, .unset] [(.long ((q1 &&& (7 : Int64)) - (2 : Int64)))])) _
              refine XS.lstoreN X0.here hx rfl (hb hby at_19) rfl (l' := #[.val (.long q1), .second, .val (.int p2), .val (.long ((q1 &&& (7 : Int64)) - (2 : Int64))), .second, .unset, .unset]) rfl ?_
              show Steps p.tables e below (s₁.setTop (mkF m 20 #[.val (.long q1), .second, .val (.int p2), .val (.long ((q1 &&& (7 : Int64)) - (2 : Int64))), .second, .unset, .unset] [])) _
              refine XS.lloadN X0.here hx rfl (hb hby at_20) rfl ?_
              show Steps p.tables e below (s₁.setTop (mkF m 21 #[.val (.long q1), .second, .val (.int p2), .val (.long ((q1 &&& (7 : Int64)) - (2 : Int64))), .second, .unset, .unset] [(.long ((q1 &&& (7 : Int64)) - (2 : Int64)))])) _
              refine st13 _ ?_
              show Steps p.tables e below (T13.setTop (mkF m 24 #[.val (.long q1), .second, .val (.int p2), .val (.long ((q1 &&& (7 : Int64)) - (2 : Int64))), .second, .unset, .unset] [(.ref el1)])) _
              refine XS.astore X13.here hx rfl (hb hby at_24) rfl rfl (l' := #[.val (.long q1), .second, .val (.int p2), .val (.long ((q1 &&& (7 : Int64)) - (2 : Int64))), .second, .val (.ref el1), .unset]) rfl ?_
              show Steps p.tables e below (T13.setTop (mkF m 26 #[.val (.long q1), .second, .val (.int p2), .val (.long ((q1 &&& (7 : Int64)) - (2 : Int64))), .second, .val (.ref el1), .unset] [])) _
              refine XS.lloadN X13.here hx rfl (hb hby at_26) rfl ?_
              show Steps p.tables e below (T13.setTop (mkF m 27 #[.val (.long q1), .second, .val (.int p2), .val (.long ((q1 &&& (7 : Int64)) - (2 : Int64))), .second, .val (.ref el1), .unset] [(.long ((q1 &&& (7 : Int64)) - (2 : Int64)))])) _
              refine XS.lconst X13.here hx rfl (hb hby at_27) ?_
              show Steps p.tables e below (T13.setTop (mkF m 28 #[.val (.long q1), .second, .val (.int p2), .val (.long ((q1 &&& (7 : Int64)) - (2 : Int64))), .second, .val (.ref el1), .unset] [(.long (0 : Int64)), (.long ((q1 &&& (7 : Int64)) - (2 : Int64)))])) _
              refine XS.lcmp X13.here hx rfl (hb hby at_28) rfl ?_
              show Steps p.tables e below (T13.setTop (mkF m 29 #[.val (.long q1), .second, .val (.int p2), .val (.long ((q1 &&& (7 : Int64)) - (2 : Int64))), .second, .val (.ref el1), .unset] [(.int (lcmpW ((q1 &&& (7 : Int64)) - (2 : Int64)) (0 : Int64)))])) _
              refine XS.ifNo X13.here hx rfl (hb hby at_29) rfl ((if0 _ _).trans (feq hc6).1) ?_
              show Steps p.tables e below (T13.setTop (mkF m 32 #[.val (.long q1), .second, .val (.int p2), .val (.long ((q1 &&& (7 : Int64)) - (2 : Int64))), .second, .val (.ref el1), .unset] [])) _
              refine XS.lloadN X13.here hx rfl (hb hby at_32) rfl ?_
              show Steps p.tables e below (T13.setTop (mkF m 33 #[.val (.long q1), .second, .val (.int p2), .val (.long ((q1 &&& (7 : Int64)) - (2 : Int64))), .second, .val (.ref el1), .unset] [(.long ((q1 &&& (7 : Int64)) - (2 : Int64)))])) _
              refine XS.lconst X13.here hx rfl (hb hby at_33) ?_
              show Steps p.tables e below (T13.setTop (mkF m 34 #[.val (.long q1), .second, .val (.int p2), .val (.long ((q1 &&& (7 : Int64)) - (2 : Int64))), .second, .val (.ref el1), .unset] [(.long (1 : Int64)), (.long ((q1 &&& (7 : Int64)) - (2 : Int64)))])) _
              refine XS.lcmp X13.here hx rfl (hb hby at_34) rfl ?_
              show Steps p.tables e below (T13.setTop (mkF m 35 #[.val (.long q1), .second, .val (.int p2), .val (.long ((q1 &&& (7 : Int64)) - (2 : Int64))), .second, .val (.ref el1), .unset] [(.int (lcmpW ((q1 &&& (7 : Int64)) - (2 : Int64)) (1 : Int64)))])) _
              refine XS.ifYes X13.here hx rfl (pc0 := 35) (pc' := 46) rfl (hb hby at_35) rfl ((if0 _ _).trans (feq hc7).2) (by decide) (by decide) ?_
              show Steps p.tables e below (T13.setTop (mkF m 46 #[.val (.long q1), .second, .val (.int p2), .val (.long ((q1 &&& (7 : Int64)) - (2 : Int64))), .second, .val (.ref el1), .unset] [])) _
              refine XS.lloadN X13.here hx rfl (hb hby at_46) rfl ?_
              show Steps p.tables e below (T13.setTop (mkF m 47 #[.val (.long q1), .second, .val (.int p2), .val (.long ((q1 &&& (7 : Int64)) - (2 : Int64))), .second, .val (.ref el1), .unset] [(.long ((q1 &&& (7 : Int64)) - (2 : Int64)))])) _
              refine X13.ldc2Long hx hown (mvT hZ (hw _ (List.mem_of_getElem? (i := 12) rfl))) (g := (mkF m 47 #[.val (.long q1), .second, .val (.int p2), .val (.long ((q1 &&& (7 : Int64)) - (2 : Int64))), .second, .val (.ref el1), .unset] [(.long ((q1 &&& (7 : Int64)) - (2 : Int64)))])) rfl (hb hby at_47) _ ?_
              show Steps p.tables e below (T13.setTop (mkF m 50 #[.val (.long q1), .second, .val (.int p2), .val (.long ((q1 &&& (7 : Int64)) - (2 : Int64))), .second, .val (.ref el1), .unset] [(.long (2 : Int64)), (.long ((q1 &&& (7 : Int64)) - (2 : Int64)))])) _
              refine XS.lcmp X13.here hx rfl (hb hby at_50) rfl ?_
              show Steps p.tables e below (T13.setTop (mkF m 51 #[.val (.long q1), .second, .val (.int p2), .val (.long ((q1 &&& (7 : Int64)) - (2 : Int64))), .second, .val (.ref el1), .unset] [(.int (lcmpW ((q1 &&& (7 : Int64)) - (2 : Int64)) (2 : Int64)))])) _
              refine XS.ifNo X13.here hx rfl (hb hby at_51) rfl ((if0 _ _).trans (feq hc8).1) ?_
              show Steps p.tables e below (T13.setTop (mkF m 54 #[.val (.long q1), .second, .val (.int p2), .val (.long ((q1 &&& (7 : Int64)) - (2 : Int64))), .second, .val (.ref el1), .unset] [])) _
              refine XS.lloadN X13.here hx rfl (hb hby at_54) rfl ?_
              show Steps p.tables e below (T13.setTop (mkF m 55 #[.val (.long q1), .second, .val (.int p2), .val (.long ((q1 &&& (7 : Int64)) - (2 : Int64))), .second, .val (.ref el1), .unset] [(.long ((q1 &&& (7 : Int64)) - (2 : Int64)))])) _
              refine X13.ldc2Long hx hown (mvT hZ (hw _ (List.mem_of_getElem? (i := 13) rfl))) (g := (mkF m 55 #[.val (.long q1), .second, .val (.int p2), .val (.long ((q1 &&& (7 : Int64)) - (2 : Int64))), .second, .val (.ref el1), .unset] [(.long ((q1 &&& (7 : Int64)) - (2 : Int64)))])) rfl (hb hby at_55) _ ?_
              show Steps p.tables e below (T13.setTop (mkF m 58 #[.val (.long q1), .second, .val (.int p2), .val (.long ((q1 &&& (7 : Int64)) - (2 : Int64))), .second, .val (.ref el1), .unset] [(.long (3 : Int64)), (.long ((q1 &&& (7 : Int64)) - (2 : Int64)))])) _
              refine XS.lcmp X13.here hx rfl (hb hby at_58) rfl ?_
              show Steps p.tables e below (T13.setTop (mkF m 59 #[.val (.long q1), .second, .val (.int p2), .val (.long ((q1 &&& (7 : Int64)) - (2 : Int64))), .second, .val (.ref el1), .unset] [(.int (lcmpW ((q1 &&& (7 : Int64)) - (2 : Int64)) (3 : Int64)))])) _
              refine XS.ifNo X13.here hx rfl (hb hby at_59) rfl ((if0 _ _).trans (teq hc9).2) ?_
              show Steps p.tables e below (T13.setTop (mkF m 62 #[.val (.long q1), .second, .val (.int p2), .val (.long ((q1 &&& (7 : Int64)) - (2 : Int64))), .second, .val (.ref el1), .unset] [])) _
              refine st22 _ ?_
              show Steps p.tables e below (T22.setTop (mkF m 65 #[.val (.long q1), .second, .val (.int p2), .val (.long ((q1 &&& (7 : Int64)) - (2 : Int64))), .second, .val (.ref el1), .unset] [(.ref el1)])) _
              refine XS.astore X22.here hx rfl (hb hby at_65) rfl rfl (l' := #[.val (.long q1), .second, .val (.int p2), .val (.long ((q1 &&& (7 : Int64)) - (2 : Int64))), .second, .val (.ref el1), .val (.ref el1)]) rfl ?_
              show Steps p.tables e below (T22.setTop (mkF m 67 #[.val (.long q1), .second, .val (.int p2), .val (.long ((q1 &&& (7 : Int64)) - (2 : Int64))), .second, .val (.ref el1), .val (.ref el1)] [])) _
              refine XS.goto X22.here hx rfl (pc0 := 67) (pc' := 73) rfl (hb hby at_67) (by decide) (by decide) ?_
              show Steps p.tables e below (T22.setTop (mkF m 73 #[.val (.long q1), .second, .val (.int p2), .val (.long ((q1 &&& (7 : Int64)) - (2 : Int64))), .second, .val (.ref el1), .val (.ref el1)] [])) _
              refine XS.aload X22.here hx rfl (hb hby at_73) rfl rfl ?_
              show Steps p.tables e below (T22.setTop (mkF m 75 #[.val (.long q1), .second, .val (.int p2), .val (.long ((q1 &&& (7 : Int64)) - (2 : Int64))), .second, .val (.ref el1), .val (.ref el1)] [(.ref el1)])) _
              refine XS.aload X22.here hx rfl (hb hby at_75) rfl rfl ?_
              show Steps p.tables e below (T22.setTop (mkF m 77 #[.val (.long q1), .second, .val (.int p2), .val (.long ((q1 &&& (7 : Int64)) - (2 : Int64))), .second, .val (.ref el1), .val (.ref el1)] [(.ref el1), (.ref el1)])) _
              refine Jvm.RoadKit.acmp (g := (mkF m 77 #[.val (.long q1), .second, .val (.int p2), .val (.long ((q1 &&& (7 : Int64)) - (2 : Int64))), .second, .val (.ref el1), .val (.ref el1)] [(.ref el1), (.ref el1)])) X22 hx rfl rfl rfl (pc0 := 77) (pc' := 80) (same := true) rfl (hb hby at_77) rfl (decide_eq_true rfl) (by decide) (by decide) ?_
              show Steps p.tables e below (T22.setTop (mkF m 80 #[.val (.long q1), .second, .val (.int p2), .val (.long ((q1 &&& (7 : Int64)) - (2 : Int64))), .second, .val (.ref el1), .val (.ref el1)] [])) _
              refine XS.iconst X22.here hx rfl (hb hby at_80) ?_
              show Steps p.tables e below (T22.setTop (mkF m 81 #[.val (.long q1), .second, .val (.int p2), .val (.long ((q1 &&& (7 : Int64)) - (2 : Int64))), .second, .val (.ref el1), .val (.ref el1)] [(.int (1 : Int32))])) _
              refine XS.goto X22.here hx rfl (pc0 := 81) (pc' := 85) rfl (hb hby at_81) (by decide) (by decide) ?_
              show Steps p.tables e below (T22.setTop (mkF m 85 #[.val (.long q1), .second, .val (.int p2), .val (.long ((q1 &&& (7 : Int64)) - (2 : Int64))), .second, .val (.ref el1), .val (.ref el1)] [(.int (1 : Int32))])) _
              exact retN X22 hx (t := .boolean) Bd.returns (by simp) (hb hby at_85) hr
            · show own_Q0 Z q1 p2 k_w_ALL el0 el1 w_ALL h0 n0 _ T22.heap _
              rw [e22]
              exact ⟨(by rw [own_f0, if_neg hc1, if_neg hc6, if_neg hc7, if_neg hc8, if_pos hc9]), N14⟩
          ·
            have hw23 : v13 = some .null := hv13.trans (by rw [own_f1, if_neg hc6, if_neg hc7, if_neg hc8, if_neg hc9])
            subst hw23
            obtain ⟨fs, hr, hrun, hended, hW, hsame⟩ := X13.leave (v := some (.int (1 : Int32))) (fun h => by rw [Bd.returns] at h; cases h)
            refine ⟨_, _, k1 _ ?_, hrun, hended, _, _, rfl, ?_, ⟨_, rfl⟩, hW, hsame.mono (by decide) (by decide)⟩
            · show Steps p.tables e below (s₁.setTop (mkF m 3 #[.val (.long q1), .second, .val (.int p2), .unset, .unset, .unset, .unset] [(.int (p2 &&& (1 : Int32)))])) _
              refine XS.ifYes X0.here hx rfl (pc0 := 3) (pc' := 10) rfl (hb hby at_3) rfl ((if0 _ _).trans (feq hc1).2) (by decide) (by decide) ?_
              show Steps p.tables e below (s₁.setTop (mkF m 10 #[.val (.long q1), .second, .val (.int p2), .unset, .unset, .unset, .unset] [])) _
              refine XS.lloadN X0.here hx rfl (hb hby at_10) rfl ?_
              show Steps p.tables e below (s₁.setTop (mkF m 11 #[.val (.long q1), .second, .val (.int p2), .unset, .unset, .unset, .unset] [(.long q1)])) _
              refine X0.ldc2Long hx hown (mvT hZ (hw _ (List.mem_of_getElem? (i := 16) rfl))) (g := (mkF m 11 #[.val (.long q1), .second, .val (.int p2), .unset, .unset, .unset, .unset] [(.long q1)])) rfl (hb hby at_11) _ ?_
              show Steps p.tables e below (s₁.setTop (mkF m 14 #[.val (.long q1), .second, .val (.int p2), .unset, .unset, .unset, .unset] [(.long (7 : Int64)), (.long q1)])) _
              refine XS.land X0.here hx rfl (hb hby at_14) rfl ?_
              show Steps p.tables e below (s₁.setTop (mkF m 15 #[.val (.long q1), .second, .val (.int p2), .unset, .unset, .unset, .unset] [(.long (q1 &&& (7 : Int64)))])) _
              refine X0.ldc2Long hx hown (mvT hZ (hw _ (List.mem_of_getElem? (i := 12) rfl))) (g := (mkF m 15 #[.val (.long q1), .second, .val (.int p2), .unset, .unset, .unset, .unset] [(.long (q1 &&& (7 : Int64)))])) rfl (hb hby at_15) _ ?_
              show Steps p.tables e below (s₁.setTop (mkF m 18 #[.val (.long q1), .second, .val (.int p2), .unset, .unset, .unset, .unset] [(.long (2 : Int64)), (.long (q1 &&& (7 : Int64)))])) _
              refine XS.lsub X0.here hx rfl (hb hby at_18) rfl ?_
              show Steps p.tables e below (s₁.setTop (mkF m 19 #[.val (.long q1), .second, .val (.int p2), .unset, .unset, .unset, .unset] [(.long ((q1 &&& (7 : Int64)) - (2 : Int64)))])) _
              refine XS.lstoreN X0.here hx rfl (hb hby at_19) rfl (l' := #[.val (.long q1), .second, .val (.int p2), .val (.long ((q1 &&& (7 : Int64)) - (2 : Int64))), .second, .unset, .unset]) rfl ?_
              show Steps p.tables e below (s₁.setTop (mkF m 20 #[.val (.long q1), .second, .val (.int p2), .val (.long ((q1 &&& (7 : Int64)) - (2 : Int64))), .second, .unset, .unset] [])) _
              refine XS.lloadN X0.here hx rfl (hb hby at_20) rfl ?_
              show Steps p.tables e below (s₁.setTop (mkF m 21 #[.val (.long q1), .second, .val (.int p2), .val (.long ((q1 &&& (7 : Int64)) - (2 : Int64))), .second, .unset, .unset] [(.long ((q1 &&& (7 : Int64)) - (2 : Int64)))])) _
              refine st13 _ ?_
              show Steps p.tables e below (T13.setTop (mkF m 24 #[.val (.long q1), .second, .val (.int p2), .val (.long ((q1 &&& (7 : Int64)) - (2 : Int64))), .second, .unset, .unset] [.null])) _
              refine XS.astore X13.here hx rfl (hb hby at_24) rfl rfl (l' := #[.val (.long q1), .second, .val (.int p2), .val (.long ((q1 &&& (7 : Int64)) - (2 : Int64))), .second, .val .null, .unset]) rfl ?_
              show Steps p.tables e below (T13.setTop (mkF m 26 #[.val (.long q1), .second, .val (.int p2), .val (.long ((q1 &&& (7 : Int64)) - (2 : Int64))), .second, .val .null, .unset] [])) _
              refine XS.lloadN X13.here hx rfl (hb hby at_26) rfl ?_
              show Steps p.tables e below (T13.setTop (mkF m 27 #[.val (.long q1), .second, .val (.int p2), .val (.long ((q1 &&& (7 : Int64)) - (2 : Int64))), .second, .val .null, .unset] [(.long ((q1 &&& (7 : Int64)) - (2 : Int64)))])) _
              refine XS.lconst X13.here hx rfl (hb hby at_27) ?_
              show Steps p.tables e below (T13.setTop (mkF m 28 #[.val (.long q1), .second, .val (.int p2), .val (.long ((q1 &&& (7 : Int64)) - (2 : Int64))), .second, .val .null, .unset] [(.long (0 : Int64)), (.long ((q1 &&& (7 : Int64)) - (2 : Int64)))])) _
              refine XS.lcmp X13.here hx rfl (hb hby at_28) rfl ?_
              show Steps p.tables e below (T13.setTop (mkF m 29 #[.val (.long q1), .second, .val (.int p2), .val (.long ((q1 &&& (7 : Int64)) - (2 : Int64))), .second, .val .null, .unset] [(.int (lcmpW ((q1 &&& (7 : Int64)) - (2 : Int64)) (0 : Int64)))])) _
              refine XS.ifNo X13.here hx rfl (hb hby at_29) rfl ((if0 _ _).trans (feq hc6).1) ?_
              show Steps p.tables e below (T13.setTop (mkF m 32 #[.val (.long q1), .second, .val (.int p2), .val (.long ((q1 &&& (7 : Int64)) - (2 : Int64))), .second, .val .null, .unset] [])) _
              refine XS.lloadN X13.here hx rfl (hb hby at_32) rfl ?_
              show Steps p.tables e below (T13.setTop (mkF m 33 #[.val (.long q1), .second, .val (.int p2), .val (.long ((q1 &&& (7 : Int64)) - (2 : Int64))), .second, .val .null, .unset] [(.long ((q1 &&& (7 : Int64)) - (2 : Int64)))])) _
              refine XS.lconst X13.here hx rfl (hb hby at_33) ?_
              show Steps p.tables e below (T13.setTop (mkF m 34 #[.val (.long q1), .second, .val (.int p2), .val (.long ((q1 &&& (7 : Int64)) - (2 : Int64))), .second, .val .null, .unset] [(.long (1 : Int64)), (.long ((q1 &&& (7 : Int64)) - (2 : Int64)))])) _
              refine XS.lcmp X13.here hx rfl (hb hby at_34) rfl ?_
              show Steps p.tables e below (T13.setTop (mkF m 35 #[.val (.long q1), .second, .val (.int p2), .val (.long ((q1 &&& (7 : Int64)) - (2 : Int64))), .second, .val .null, .unset] [(.int (lcmpW ((q1 &&& (7 : Int64)) - (2 : Int64)) (1 : Int64)))])) _
              refine XS.ifYes X13.here hx rfl (pc0 := 35) (pc' := 46) rfl (hb hby at_35) rfl ((if0 _ _).trans (feq hc7).2) (by decide) (by decide) ?_
              show Steps p.tables e below (T13.setTop (mkF m 46 #[.val (.long q1), .second, .val (.int p2), .val (.long ((q1 &&& (7 : Int64)) - (2 : Int64))), .second, .val .null, .unset] [])) _
              refine XS.lloadN X13.here hx rfl (hb hby at_46) rfl ?_
              show Steps p.tables e below (T13.setTop (mkF m 47 #[.val (.long q1), .second, .val (.int p2), .val (.long ((q1 &&& (7 : Int64)) - (2 : Int64))), .second, .val .null, .unset] [(.long ((q1 &&& (7 : Int64)) - (2 : Int64)))])) _
              refine X13.ldc2Long hx hown (mvT hZ (hw _ (List.mem_of_getElem? (i := 12) rfl))) (g := (mkF m 47 #[.val (.long q1), .second, .val (.int p2), .val (.long ((q1 &&& (7 : Int64)) - (2 : Int64))), .second, .val .null, .unset] [(.long ((q1 &&& (7 : Int64)) - (2 : Int64)))])) rfl (hb hby at_47) _ ?_
              show Steps p.tables e below (T13.setTop (mkF m 50 #[.val (.long q1), .second, .val (.int p2), .val (.long ((q1 &&& (7 : Int64)) - (2 : Int64))), .second, .val .null, .unset] [(.long (2 : Int64)), (.long ((q1 &&& (7 : Int64)) - (2 : Int64)))])) _
              refine XS.lcmp X13.here hx rfl (hb hby at_50) rfl ?_
              show Steps p.tables e below (T13.setTop (mkF m 51 #[.val (.long q1), .second, .val (.int p2), .val (.long ((q1 &&& (7 : Int64)) - (2 : Int64))), .second, .val .null, .unset] [(.int (lcmpW ((q1 &&& (7 : Int64)) - (2 : Int64)) (2 : Int64)))])) _
              refine XS.ifNo X13.here hx rfl (hb hby at_51) rfl ((if0 _ _).trans (feq hc8).1) ?_
              show Steps p.tables e below (T13.setTop (mkF m 54 #[.val (.long q1), .second, .val (.int p2), .val (.long ((q1 &&& (7 : Int64)) - (2 : Int64))), .second, .val .null, .unset] [])) _
              refine XS.lloadN X13.here hx rfl (hb hby at_54) rfl ?_
              show Steps p.tables e below (T13.setTop (mkF m 55 #[.val (.long q1), .second, .val (.int p2), .val (.long ((q1 &&& (7 : Int64)) - (2 : Int64))), .second, .val .null, .unset] [(.long ((q1 &&& (7 : Int64)) - (2 : Int64)))])) _
              refine X13.ldc2Long hx hown (mvT hZ (hw _ (List.mem_of_getElem? (i := 13) rfl))) (g := (mkF m 55 #[.val (.long q1), .second, .val (.int p2), .val (.long ((q1 &&& (7 : Int64)) - (2 : Int64))), .second, .val .null, .unset] [(.long ((q1 &&& (7 : Int64)) - (2 : Int64)))])) rfl (hb hby at_55) _ ?_
              show Steps p.tables e below (T13.setTop (mkF m 58 #[.val (.long q1), .second, .val (.int p2), .val (.long ((q1 &&& (7 : Int64)) - (2 : Int64))), .second, .val .null, .unset] [(.long (3 : Int64)), (.long ((q1 &&& (7 : Int64)) - (2 : Int64)))])) _
              refine XS.lcmp X13.here hx rfl (hb hby at_58) rfl ?_
              show Steps p.tables e below (T13.setTop (mkF m 59 #[.val (.long q1), .second, .val (.int p2), .val (.long ((q1 &&& (7 : Int64)) - (2 : Int64))), .second, .val .null, .unset] [(.int (lcmpW ((q1 &&& (7 : Int64)) - (2 : Int64)) (3 : Int64)))])) _
              refine XS.ifYes X13.here hx rfl (pc0 := 59) (pc' := 70) rfl (hb hby at_59) rfl ((if0 _ _).trans (feq hc9).2) (by decide) (by decide) ?_
              show Steps p.tables e below (T13.setTop (mkF m 70 #[.val (.long q1), .second, .val (.int p2), .val (.long ((q1 &&& (7 : Int64)) - (2 : Int64))), .second, .val .null, .unset] [])) _
              refine XS.aconstNull X13.here hx rfl (hb hby at_70) ?_
              show Steps p.tables e below (T13.setTop (mkF m 71 #[.val (.long q1), .second, .val (.int p2), .val (.long ((q1 &&& (7 : Int64)) - (2 : Int64))), .second, .val .null, .unset] [.null])) _
              refine XS.astore X13.here hx rfl (hb hby at_71) rfl rfl (l' := #[.val (.long q1), .second, .val (.int p2), .val (.long ((q1 &&& (7 : Int64)) - (2 : Int64))), .second, .val .null, .val .null]) rfl ?_
              show Steps p.tables e below (T13.setTop (mkF m 73 #[.val (.long q1), .second, .val (.int p2), .val (.long ((q1 &&& (7 : Int64)) - (2 : Int64))), .second, .val .null, .val .null] [])) _
              refine XS.aload X13.here hx rfl (hb hby at_73) rfl rfl ?_
              show Steps p.tables e below (T13.setTop (mkF m 75 #[.val (.long q1), .second, .val (.int p2), .val (.long ((q1 &&& (7 : Int64)) - (2 : Int64))), .second, .val .null, .val .null] [.null])) _
              refine XS.aload X13.here hx rfl (hb hby at_75) rfl rfl ?_
              show Steps p.tables e below (T13.setTop (mkF m 77 #[.val (.long q1), .second, .val (.int p2), .val (.long ((q1 &&& (7 : Int64)) - (2 : Int64))), .second, .val .null, .val .null] [.null, .null])) _
              refine Jvm.RoadKit.acmp (g := (mkF m 77 #[.val (.long q1), .second, .val (.int p2), .val (.long ((q1 &&& (7 : Int64)) - (2 : Int64))), .second, .val .null, .val .null] [.null, .null])) X13 hx rfl rfl rfl (pc0 := 77) (pc' := 80) (same := true) rfl (hb hby at_77) rfl (decide_eq_true rfl) (by decide) (by decide) ?_
              show Steps p.tables e below (T13.setTop (mkF m 80 #[.val (.long q1), .second, .val (.int p2), .val (.long ((q1 &&& (7 : Int64)) - (2 : Int64))), .second, .val .null, .val .null] [])) _
              refine XS.iconst X13.here hx rfl (hb hby at_80) ?_
              show Steps p.tables e below (T13.setTop (mkF m 81 #[.val (.long q1), .second, .val (.int p2), .val (.long ((q1 &&& (7 : Int64)) - (2 : Int64))), .second, .val .null, .val .null] [(.int (1 : Int32))])) _
              refine XS.goto X13.here hx rfl (pc0 := 81) (pc' := 85) rfl (hb hby at_81) (by decide) (by decide) ?_
              show Steps p.tables e below (T13.setTop (mkF m 85 #[.val (.long q1), .second, .val (.int p2), .val (.long ((q1 &&& (7 : Int64)) - (2 : Int64))), .second, .val .null, .val .null] [(.int (1 : Int32))])) _
              exact retN X13 hx (t := .boolean) Bd.returns (by simp) (hb hby at_85) hr
            · show own_Q0 Z q1 p2 k_w_ALL el0 el1 w_ALL h0 n0 _ T13.heap _
              rw [e13]
              exact ⟨(by rw [own_f0, if_neg hc1, if_neg hc6, if_neg hc7, if_neg hc8, if_neg hc9]), N14⟩
theorem own_law (q1 : Int64) (p2 : Int32) : own_f0 q1 p2 = 1 := by
  unfold own_f0
  simp only [ite_self]
theorem own_eqF {args : Array Value} {s : State} {t : Term} {C n d : String} {x : Addr} {k : Int32} (h : (Jvm.Cond.eq (Term.field t C n d) (Term.int k)).value args s none s [] = some true) (ht : t.eval args s none [] s = some (.ref x)) : s.fieldOf? x C n d = some (.int k) := by
  obtain ⟨u, w, hu, hw, k1, k2⟩ := cmp_v (Or.inl h)
  have e1 : w = .int k := (Option.some.inj ((Term.int_eval k).symm.trans hw)).symm
  subst e1
  obtain ⟨y, rfl⟩ := k2
  rw [← fld_at ht, hu]
  rw [Cond.eq_ints hu hw] at h
  simp at h
  rw [h]
theorem own_eqFL {args : Array Value} {s : State} {t : Term} {C n d : String} {x : Addr} {k : Int64} (h : (Jvm.Cond.eq (Term.field t C n d) (Term.long k)).value args s none s [] = some true) (ht : t.eval args s none [] s = some (.ref x)) : s.fieldOf? x C n d = some (.long k) := by
  obtain ⟨u, w, hu, hw, k1, k2⟩ := cmp_v (Or.inl h)
  have e1 : w = .long k := (Option.some.inj ((show (Term.long k).eval args s none [] s = some (.long k) from rfl).symm.trans hw)).symm
  subst e1
  obtain ⟨y, rfl⟩ := k2
  rw [← fld_at ht, hu]
  rw [eq_L hu hw] at h
  simp at h
  rw [h]
theorem own_eqR {args : Array Value} {s : State} {a b : Term} {x : Addr} (h : (Jvm.Cond.eq a b).value args s none s [] = some true) (hb : b.eval args s none [] s = some (.ref x)) : a.eval args s none [] s = some (.ref x) := by
  obtain ⟨u, w, hu, hw, k1, k2⟩ := cmp_v (Or.inl h)
  have e1 : w = .ref x := (Option.some.inj (hb.symm.trans hw)).symm
  subst e1
  rw [eq_R hu hw k2.2 rfl] at h
  simp at h
  rw [hu, h]
theorem own_len {args : Array Value} {s : State} {t : Term} {x : Addr} {cl : Cell} {k : Int32} (h : (Jvm.Cond.eq (Term.length t) (Term.int k)).value args s none s [] = some true) (ht : t.eval args s none [] s = some (.ref x)) (hc : s.heap[x]? = some cl) : cl.slots.size < 2 ^ 31 ∧ cl.slots.size.toInt32 = k := by
  obtain ⟨u, w, hu, hw, k1, k2⟩ := cmp_v (Or.inl h)
  have e1 : w = .int k := (Option.some.inj ((Term.int_eval k).symm.trans hw)).symm
  subst e1
  obtain ⟨y, rfl⟩ := k2
  rw [Cond.eq_ints hu hw] at h
  simp at h
  subst h
  simp only [Term.eval, Option.bind_eq_bind, ht, Option.bind_some] at hu
  obtain ⟨cell, hcell, h2⟩ := Option.bind_eq_some_iff.mp hu
  cases hc.symm.trans (State.arrayAt?_spec hcell).1
  by_cases hn : cl.slots.size < 2147483648
  · rw [if_pos hn] at h2
    exact ⟨hn, Value.int.inj (Option.some.inj h2)⟩
  · rw [if_neg hn] at h2; cases h2
set_option maxRecDepth 65536 in
set_option maxHeartbeats 40000000 in
theorem comes_1 {Post : Tables → Env → Array Value → State → Outcome → State → Prop} (hpost : ∀ tb e args s v u, (limb_1_1.after args s (.returned v) u = true ∧ limb_1_2.after args s (.returned v) u = true ∧ True) → FrameEnd s (.returned v) u (Jvm.fieldLocs frame_1_writes args s ++ Jvm.arrayLocs frame_1_arrays args s ++ Jvm.staticLocs frame_1_statics s) 0 0 → Post tb e args s (.returned v) u) :
    ArmFor flags0 classFile x code maxLocals ret World_1 tables_1 room_1 Calls_1 rest_1 Pre_1 Post := by
  intro l hfl _ _ p e ha hc hk s m args below hf hA hF happ hP
  obtain ⟨hcalls, hrest, hpre⟩ := hP
  obtain ⟨-, -, -, hnamed, -, -, -, hat⟩ := (Spec.applies_iff hf).mp happ
  obtain ⟨hg, hn⟩ := and_e (Cond.before_iff.mp (show (Jvm.Cond.and given_1 narrow_1).before args s = true from hpre))
  obtain ⟨gg1, gg2⟩ := and_e hg
  obtain ⟨gg3, gg4⟩ := and_e gg2
  obtain ⟨w0, w1, rfl⟩ : ∃ w0 w1 : Value, args = #[w0, w1] := by
    have hs : args.size = 2 := by simpa [Cond.value, given_1] using gg1
    obtain ⟨L⟩ := args
    match L, hs with
    | [w0, w1], _ => exact ⟨w0, w1, rfl⟩
  have hw := fun d (hd : d ∈ tables_1) => atoms_spec (ws := Jvm.Cond.code x code maxLocals ret :: tables_1) hat d (List.mem_cons_of_mem _ hd)
  have hfit : Fit s := fun {y c} hc i hi => by
    obtain ⟨ha, rfl⟩ := Array.getElem?_eq_some_iff.mp hc
    have q := List.all_eq_true.mp ((Array.all_eq_true_iff_forall_mem.mp hF) _ (Array.getElem_mem ha)) i (List.mem_range.mpr hi)
    simpa [Array.getElem?_eq_getElem hi] using q
  obtain ⟨i0, ei0⟩ := isL_v gg3
  obtain rfl : w0 = (.long i0) := Option.some.inj ei0
  obtain ⟨i1, ei1⟩ := is_v gg4
  obtain rfl : w1 = (.int i1) := Option.some.inj ei1
  obtain ⟨n0, r0⟩ := and_e hn
  obtain ⟨n1, r1⟩ := and_e r0
  obtain ⟨n2, r2⟩ := and_e r1
  obtain ⟨n3, r3⟩ := and_e r2
  obtain ⟨n4, r4⟩ := and_e r3
  obtain ⟨n5, r5⟩ := and_e r4
  obtain ⟨n6, r6⟩ := and_e r5
  obtain ⟨n7, r7⟩ := and_e r6
  obtain ⟨n8, r8⟩ := and_e r7
  obtain ⟨a_ALL, e_ALL⟩ := arr_v n0
  have S_ALL := Sta.start e_ALL (Or.inr ⟨(hw _ (List.mem_of_getElem? (i := 2) rfl)), (hw _ (List.mem_of_getElem? (i := 5) rfl))⟩)
  obtain ⟨clA, ArA⟩ := Arr.start e_ALL n0
  obtain ⟨el0, ee0⟩ := exa_v n2
  obtain ⟨el1, ee1⟩ := exa_v n5
  have F00 := Fld.start (own_eqFL n3 ee0)
  have F01 := Fld.start (own_eqFL n4 ee0)
  have F10 := Fld.start (own_eqFL n6 ee1)
  have F11 := Fld.start (own_eqFL n7 ee1)
  have x0 := elem_in ee0 e_ALL (Term.int_eval 0) ArA.1
  have x1 := elem_in ee1 e_ALL (Term.int_eval 1) ArA.1
  obtain ⟨q1, q2⟩ := own_len n1 e_ALL ArA.1
  have V_ALL := Arv.start (dv := .null) (vs := [.ref el0, .ref el1]) hfit ArA q1 q2 (by decide) rfl ⟨x0.2, x1.2, trivial⟩
  have S_K := Sta.start (own_eqR r8 ee0) (Or.inr ⟨(hw _ (List.mem_of_getElem? (i := 2) rfl)), (hw _ (List.mem_of_getElem? (i := 18) rfl))⟩)
  have S_I := Sta.start (own_eqR n8 ee1) (Or.inr ⟨(hw _ (List.mem_of_getElem? (i := 2) rfl)), (hw _ (List.mem_of_getElem? (i := 15) rfl))⟩)
  obtain ⟨n, o, h1, h2, h3, _, L, rfl, ⟨rfl, N⟩, hq⟩ := own_rm0 l s _ hw tables_1 i0 i1 clA.cls el0 el1 a_ALL s.heap s.heap.size (Nat.le_refl _) V_ALL S_ALL F00 F01 F10 F11 S_K S_I p e ha hc hk s m _ below hf ((Spec.applies_iff_loose hf).mp happ).1 ⟨rfl, State.Warmed39.refl s, rfl⟩ trivial
  refine ⟨n, _, h1, h2, h3, hpost _ _ _ _ _ _ ⟨Cond.after_iff.mpr rfl, Cond.after_iff.mpr (eq_i res_at (Term.int_eval (1)) (congrArg Value.int (own_law i0 i1))), trivial⟩ ⟨hq.1, hq.2.1, (hq.2.2.sift fun y hy => Or.inr (N y hy)).mono (by decide) (by decide)⟩⟩
theorem main_1_1 : Claimed_1_1 := comes_1 fun _ _ _ _ _ _ h hF => ⟨h.1, hF⟩
theorem main_1_2 : Claimed_1_2 := comes_1 fun _ _ _ _ _ _ h hF => ⟨h.2.1, hF⟩
end Jvm.Pilot.@@N@@
namespace Jvm.Pilot.@@N@@
open Jvm Jvm.ClassFile Sem Op Lib Jvm.Free Jvm.Stand Jvm.Pilot.@@N@@.Jvm.D
/-! MADE BY PROGRAM (witnessworld.py) out of the Statement's table words and the real class files: 15 classes; the members and pool entries that the words name. The judged class is class 1, her method 1. -/
namespace start1
open Jvm.ClassFile
def u (s : String) : CpInfo := .utf8 (stringToUtf16 s)
/-- a pool by its gaps: so many unusable entries, then the entry; so many at the end -/
def gap : Nat → List CpInfo → List CpInfo
  | 0, r => r
  | n + 1, r => .unusable :: gap n r
def poolList (es : List (Nat × CpInfo)) (last : Nat) : List CpInfo := es.foldr (fun e r => gap e.1 (e.2 :: r)) (gap last [])
def pool (es : List (Nat × CpInfo)) (last : Nat) : Array CpInfo := ⟨poolList es last⟩
def fileOf (pool : Array CpInfo) (this : Nat) (attrs : Array Attribute := #[]) (ms : Array MethodInfo := #[]) (fl : Nat := 33) (sup : Nat := 0) (ifs : Array Nat := #[]) (fds : Array FieldInfo := #[]) : ClassFile where
  minorVersion := 0
  majorVersion := 65
  constantPool := pool
  accessFlags := fl
  thisClass := this
  superClass := sup
  interfaces := ifs
  fields := fds
  methods := ms
  attributes := attrs
def plain (name : String) (sup : Option ClassId) : Class where
  name := name
  kind := .ordinary
  loader := none
  accessFlags := 33
  super := sup
  interfaces := #[]
  cf := none
  fields := #[]
  methods := #[]
  instanceTypes := #[]
  staticTypes := #[]
  resolved := #[]
  callSites := []
  init := .initialized
  statics := none
  mirror := none

def pool0 : Array CpInfo := pool [(5, u "<init>"), (0, u "()V"), (1, .class_ 10), (1, u "java/lang/Object")] 113

def k0m0 : Method := { name := "<init>", desc := "()V", sig := { parameters := [], returnType := none }, accessFlags := 1, code := none }
/-- java/lang/Object -/
def k0 : Class := { plain "java/lang/Object" none with
  accessFlags := 33
  interfaces := #[]
  cf := some (fileOf pool0 8 #[] #[{ accessFlags := 1, nameIndex := 5, descriptorIndex := 6, attributes := #[] }] 33 0 #[] #[])
  fields := #[]
  methods := #[k0m0]
  instanceTypes := #[]
  staticTypes := #[]
  resolved := Array.replicate 124 none
  statics := none }

def pool1 : Array CpInfo := pool [(2, .class_ 4), (1, u "java/lang/Object"), (0, u "<init>"), (0, u "()V"), (0, .long 7), (1, .long 2), (1, .methodref 12 13), (0, .class_ 14), (0, .nameAndType 15 16), (0, u "com/example/wirefold/wirefold/binary/Framing"), (0, u "withIndicator"), (0, u "(J)Lcom/example/wirefold/wirefold/binary/Framing;"), (0, .fieldref 12 18), (0, .nameAndType 19 20), (0, u "KNOWN_LENGTH"), (0, u "Lcom/example/wirefold/wirefold/binary/Framing;"), (0, .long 3), (1, .fieldref 12 24), (0, .nameAndType 25 20), (0, u "INDETERMINATE_LENGTH"), (0, .class_ 27), (0, u "com/example/wirefold/wirefold/binary/FramingWithIndicatorPinLaw"), (2, u "law"), (0, u "(JI)Z")] 3

def k1m0 : Method := { name := "<init>", desc := "()V", sig := { parameters := [], returnType := none }, accessFlags := 2, code := none }
def k1c1 : Code := { maxStack := 4, maxLocals := 7, code := code, exceptionTable := #[], attributes := #[] }
def k1m1 : Method := { name := "law", desc := "(JI)Z", sig := { parameters := [.long, .int], returnType := some .boolean }, accessFlags := 9, code := some k1c1 }
/-- com/example/wirefold/wirefold/binary/FramingWithIndicatorPinLaw -/
def k1 : Class := { plain "com/example/wirefold/wirefold/binary/FramingWithIndicatorPinLaw" (some 0) with
  accessFlags := 49
  interfaces := #[]
  cf := some (fileOf pool1 26 #[] #[{ accessFlags := 2, nameIndex := 5, descriptorIndex := 6, attributes := #[] }, { accessFlags := 9, nameIndex := 30, descriptorIndex := 31, attributes := #[] }] 49 2 #[] #[])
  fields := #[]
  methods := #[k1m0, k1m1]
  instanceTypes := #[]
  staticTypes := #[]
  resolved := Array.replicate 35 none
  statics := none }

def pool2 : Array CpInfo := pool [(1, .class_ 2), (0, u "java/lang/constant/Constable"), (0, .class_ 4), (0, u "java/lang/Object")] 6

/-- java/lang/constant/Constable -/
def k2 : Class := { plain "java/lang/constant/Constable" (some 0) with
  accessFlags := 1537
  interfaces := #[]
  cf := some (fileOf pool2 1 #[] #[] 1537 3 #[] #[])
  fields := #[]
  methods := #[]
  instanceTypes := #[]
  staticTypes := #[]
  resolved := Array.replicate 11 none
  statics := none }

def pool3 : Array CpInfo := pool [(1, .class_ 2), (0, u "java/lang/Comparable"), (0, .class_ 4), (0, u "java/lang/Object")] 7

/-- java/lang/Comparable -/
def k3 : Class := { plain "java/lang/Comparable" (some 0) with
  accessFlags := 1537
  interfaces := #[]
  cf := some (fileOf pool3 1 #[] #[] 1537 3 #[] #[])
  fields := #[]
  methods := #[]
  instanceTypes := #[]
  staticTypes := #[]
  resolved := Array.replicate 12 none
  statics := none }

def pool4 : Array CpInfo := pool [(1, .class_ 2), (0, u "java/io/Serializable"), (0, .class_ 4), (0, u "java/lang/Object")] 2

/-- java/io/Serializable -/
def k4 : Class := { plain "java/io/Serializable" (some 0) with
  accessFlags := 1537
  interfaces := #[]
  cf := some (fileOf pool4 1 #[] #[] 1537 3 #[] #[])
  fields := #[]
  methods := #[]
  instanceTypes := #[]
  staticTypes := #[]
  resolved := Array.replicate 7 none
  statics := none }

def pool5 : Array CpInfo := pool [(2, .class_ 4), (1, u "java/lang/Enum"), (0, u "name"), (0, u "Ljava/lang/String;"), (2, u "ordinal"), (0, u "I"), (1, .class_ 14), (1, u "java/lang/Object"), (4, u "hash"), (86, .class_ 108), (1, u "java/lang/Enum$EnumDesc"), (2, .class_ 112), (0, u "java/lang/constant/Constable"), (0, .class_ 114), (0, u "java/lang/Comparable"), (0, .class_ 116), (0, u "java/io/Serializable")] 87

/-- java/lang/Enum -/
def k5 : Class := { plain "java/lang/Enum" (some 0) with
  accessFlags := 1057
  interfaces := #[2, 3, 4]
  cf := some (fileOf pool5 2 #[.nestMembers #[106]] #[] 1057 12 #[111, 113, 115] #[{ accessFlags := 18, nameIndex := 5, descriptorIndex := 6, attributes := #[] }, { accessFlags := 18, nameIndex := 9, descriptorIndex := 10, attributes := #[] }, { accessFlags := 2, nameIndex := 19, descriptorIndex := 10, attributes := #[] }])
  fields := #[{ name := "name", type := (.object "java/lang/String"), accessFlags := 18, slot := 0, constantValue := 0 }, { name := "ordinal", type := .int, accessFlags := 18, slot := 1, constantValue := 0 }, { name := "hash", type := .int, accessFlags := 2, slot := 2, constantValue := 0 }]
  methods := #[]
  instanceTypes := #[(.object "java/lang/String"), .int, .int]
  staticTypes := #[]
  resolved := Array.replicate 204 none
  statics := none }

def pool6 : Array CpInfo := pool [(1, .class_ 2), (0, u "com/example/wirefold/wirefold/binary/Framing"), (2, u "KNOWN_LENGTH"), (0, u "Lcom/example/wirefold/wirefold/binary/Framing;"), (2, u "INDETERMINATE_LENGTH"), (2, u "$VALUES"), (0, u "[Lcom/example/wirefold/wirefold/binary/Framing;"), (6, .class_ 22), (1, u "java/lang/Enum"), (6, .fieldref 1 30), (0, .nameAndType 31 32), (0, u "requestIndicator"), (0, u "J"), (0, .fieldref 1 34), (0, .nameAndType 35 32), (0, u "responseIndicator"), (20, u "withIndicator"), (0, u "(J)Lcom/example/wirefold/wirefold/binary/Framing;"), (27, .fieldref 1 86), (0, .nameAndType 87 13), (0, u "ALL"), (63, .class_ 152), (0, u "com/example/wirefold/wirefold/binary/Framing$1"), (4, .class_ 158), (0, u "com/example/wirefold/wirefold/binary/Framing$2"), (13, u "CONTENT_END"), (37, .class_ 211), (0, u "com/example/wirefold/wirefold/binary/Framing$ChunkWriter"), (0, .class_ 213), (0, u "com/example/wirefold/wirefold/binary/Framing$RawContent")] 19

def k6c0 : Code := { maxStack := 4, maxLocals := 6, code := prog_8_method_8_code, exceptionTable := #[], attributes := #[] }
def k6m0 : Method := { name := "withIndicator", desc := "(J)Lcom/example/wirefold/wirefold/binary/Framing;", sig := { parameters := [.long], returnType := some (.object "com/example/wirefold/wirefold/binary/Framing") }, accessFlags := 8, code := some k6c0 }
/-- com/example/wirefold/wirefold/binary/Framing -/
def k6 : Class := { plain "com/example/wirefold/wirefold/binary/Framing" (some 5) with
  accessFlags := 17441
  interfaces := #[]
  cf := some (fileOf pool6 1 #[.nestMembers #[210, 212, 157, 151]] #[{ accessFlags := 8, nameIndex := 56, descriptorIndex := 57, attributes := #[] }] 17441 20 #[] #[{ accessFlags := 16409, nameIndex := 5, descriptorIndex := 6, attributes := #[] }, { accessFlags := 16409, nameIndex := 9, descriptorIndex := 6, attributes := #[] }, { accessFlags := 26, nameIndex := 87, descriptorIndex := 13, attributes := #[] }, { accessFlags := 24, nameIndex := 172, descriptorIndex := 32, attributes := #[] }, { accessFlags := 18, nameIndex := 31, descriptorIndex := 32, attributes := #[] }, { accessFlags := 18, nameIndex := 35, descriptorIndex := 32, attributes := #[] }, { accessFlags := 4122, nameIndex := 12, descriptorIndex := 13, attributes := #[] }])
  fields := #[{ name := "KNOWN_LENGTH", type := (.object "com/example/wirefold/wirefold/binary/Framing"), accessFlags := 16409, slot := 0, constantValue := 0 }, { name := "INDETERMINATE_LENGTH", type := (.object "com/example/wirefold/wirefold/binary/Framing"), accessFlags := 16409, slot := 1, constantValue := 0 }, { name := "ALL", type := (.array (.object "com/example/wirefold/wirefold/binary/Framing")), accessFlags := 26, slot := 2, constantValue := 0 }, { name := "CONTENT_END", type := .long, accessFlags := 24, slot := 3, constantValue := 0 }, { name := "requestIndicator", type := .long, accessFlags := 18, slot := 3, constantValue := 0 }, { name := "responseIndicator", type := .long, accessFlags := 18, slot := 4, constantValue := 0 }, { name := "$VALUES", type := (.array (.object "com/example/wirefold/wirefold/binary/Framing")), accessFlags := 4122, slot := 4, constantValue := 0 }]
  methods := #[k6m0]
  instanceTypes := #[(.object "java/lang/String"), .int, .int, .long, .long]
  staticTypes := #[(.object "com/example/wirefold/wirefold/binary/Framing"), (.object "com/example/wirefold/wirefold/binary/Framing"), (.array (.object "com/example/wirefold/wirefold/binary/Framing")), .long, (.array (.object "com/example/wirefold/wirefold/binary/Framing"))]
  resolved := Array.replicate 233 none
  statics := some 0 }

def pool7 : Array CpInfo := pool [(2, .class_ 4), (1, u "com/example/wirefold/wirefold/binary/Framing"), (91, .class_ 97), (0, u "com/example/wirefold/wirefold/binary/Framing$1")] 29

/-- com/example/wirefold/wirefold/binary/Framing$1 -/
def k7 : Class := { plain "com/example/wirefold/wirefold/binary/Framing$1" (some 6) with
  accessFlags := 16432
  interfaces := #[]
  cf := some (fileOf pool7 96 #[.nestHost 2] #[] 16432 2 #[] #[])
  fields := #[]
  methods := #[]
  instanceTypes := #[(.object "java/lang/String"), .int, .int, .long, .long]
  staticTypes := #[]
  resolved := Array.replicate 127 none
  statics := none }

def pool8 : Array CpInfo := pool [(2, .class_ 4), (1, u "com/example/wirefold/wirefold/binary/Framing"), (59, .class_ 65), (0, u "com/example/wirefold/wirefold/binary/Framing$2")] 31

/-- com/example/wirefold/wirefold/binary/Framing$2 -/
def k8 : Class := { plain "com/example/wirefold/wirefold/binary/Framing$2" (some 6) with
  accessFlags := 16432
  interfaces := #[]
  cf := some (fileOf pool8 64 #[.nestHost 2] #[] 16432 2 #[] #[])
  fields := #[]
  methods := #[]
  instanceTypes := #[(.object "java/lang/String"), .int, .int, .long, .long]
  staticTypes := #[]
  resolved := Array.replicate 97 none
  statics := none }

def pool9 : Array CpInfo := pool [(1, u "java/lang/Cloneable"), (0, .class_ 1), (0, u "java/lang/Object"), (0, .class_ 3)] 3

/-- java/lang/Cloneable -/
def k9 : Class := { plain "java/lang/Cloneable" (some 0) with
  accessFlags := 1537
  interfaces := #[]
  cf := some (fileOf pool9 2 #[] #[] 1537 4 #[] #[])
  fields := #[]
  methods := #[]
  instanceTypes := #[]
  staticTypes := #[]
  resolved := Array.replicate 8 none
  statics := none }

/-- the primitive byte -/
def k10 : Class := { plain "byte" none with kind := .primitive 'B', accessFlags := 0x411 }
/-- [B -/
def k11 : Class := { plain "[B" (some 0) with kind := .array 10 .byte, interfaces := #[9, 4], accessFlags := 1041 }

/-- the primitive int -/
def k12 : Class := { plain "int" none with kind := .primitive 'I', accessFlags := 0x411 }
/-- [I -/
def k13 : Class := { plain "[I" (some 0) with kind := .array 12 .int, interfaces := #[9, 4], accessFlags := 1041 }

/-- [Lcom/example/wirefold/wirefold/binary/Framing; -/
def k14 : Class := { plain "[Lcom/example/wirefold/wirefold/binary/Framing;" (some 0) with kind := .array 6 (.object "com/example/wirefold/wirefold/binary/Framing"), interfaces := #[9, 4], accessFlags := 1041 }

def heap : Heap := #[{ cls := 6, slots := #[.ref 2, .ref 3, .ref 1, .long 0, .null], vm := .statics 6 },
  { cls := 14, slots := #[.ref 2, .ref 3], vm := .none },
  { cls := 7, slots := #[.null, .int 0, .int 0, .long 0, .long 1], vm := .none },
  { cls := 8, slots := #[.null, .int 1, .int 0, .long 2, .long 3], vm := .none }]
def classes : Array Class := #[k0, k1, k2, k3, k4, k5, k6, k7, k8, k9, k10, k11, k12, k13, k14]
def interned : List (Array UInt16 × Addr) := []
def slotsUsed : Nat := 17
def theMethod : MethodId := ⟨1, 1⟩
def args0 : Array Value := #[.long 2, .int 0]
def aboutOver (below : List Frame) : State where
  vm := { classes := classes, interned := interned.toArray }
  heap := heap
  slotsUsed := slotsUsed
  threads := #[{ frames := .invoking theMethod args0 :: below }]
def below0 : List Frame := [.native { method := ⟨0, 0⟩, args := #[] }]
def about1 : State := aboutOver below0
def p0 : Program := .bare "" "" ""
def e0 : Env := launch0.env 0 0 0
theorem w_frames : about1.frames = Frame.invoking theMethod args0 :: below0 := rfl
set_option maxRecDepth 65536 in
theorem w_args : argsFit about1.vm theMethod args0 = true := by decide +kernel
set_option maxRecDepth 65536 in
theorem w_heap : heapFits about1 = true := by decide +kernel
set_option maxRecDepth 65536 in
theorem w_runnable : about1.curStatus? = some .runnable := by decide +kernel
set_option maxRecDepth 65536 in
theorem w_alone : about1.alone = true := by decide +kernel
set_option maxRecDepth 65536 in
theorem w_named : about1.methodNamed? x = some theMethod := by decide +kernel
set_option maxRecDepth 65536 in
theorem w_hears : about1.hears theMethod below0 = true := by decide +kernel
set_option maxRecDepth 65536 in
theorem w_ripe : about1.ripe theMethod args0 below0 = true := by decide +kernel
theorem w_running : about1.status = .running := rfl
set_option maxRecDepth 65536 in
theorem w_room : about1.hasRoom e0.platform room_1 = true :=
  launch0.hasRoom_least _ room_1 (by decide +kernel) (by decide +kernel) (by decide +kernel) (by decide +kernel) (by decide +kernel) (by decide +kernel)
theorem allAtoms_all (ts : List Jvm.Cond) (a : Array Jvm.Value) (st : Jvm.State) : (allAtoms ts).before a st = ts.all (fun c => c.before a st) := by
  induction ts with
  | nil => rfl
  | cons c t ih =>
    show (Jvm.Cond.and c (allAtoms t)).before a st = _
    rw [Jvm.Cond.before_and, ih, List.all_cons]
def words1 : List Jvm.Cond := Jvm.Cond.code x code maxLocals ret :: tables_1
/-- a 'code' word, met by the world's own term for the bytes: nothing is compared byte by byte -/
theorem code_word {y : MethodName} {bytes : ByteArray} {mx : Nat} {rt : Option FieldType} {a : Array Value} {s : State} {m : MethodId} {meth : Method} {c : Code} (h1 : s.methodNamed? y = some m) (h2 : s.vm.method? m = some meth) (h3 : meth.code = some c) (h4 : c.code = bytes)
    (h5 : (c.maxLocals == mx && c.exceptionTable.isEmpty && decide (c.maxStack ≤ mostOperands) && decide (meth.sig.returnType = rt) && !meth.locks && decide (parseMethodDescriptor y.desc = some meth.sig)) = true) : (Jvm.Cond.code y bytes mx rt).before a s = true := by
  simp only [Bool.and_eq_true, beq_iff_eq, Bool.not_eq_true', decide_eq_true_eq] at h5
  obtain ⟨⟨⟨⟨⟨g1, g2⟩, g3⟩, g4⟩, g5⟩, g6⟩ := h5
  simp [Cond.before, Cond.holds, Cond.value, h1, h2, h3, h4, g1, g2, g3, g4, g5, g6]
def isCode : Jvm.Cond → Bool
  | .code _ _ _ _ => true
  | _ => false
theorem all_split {L : List Jvm.Cond} {P : Jvm.Cond → Bool} (h1 : L.all (fun c => isCode c || P c) = true) (h2 : ∀ c ∈ L.filter isCode, P c = true) : L.all P = true := by
  refine List.all_eq_true.mpr fun c hc => ?_
  have h := List.all_eq_true.mp h1 c hc
  rcases Bool.eq_false_or_eq_true (isCode c) with hi | hi
  · exact h2 c (List.mem_filter.mpr ⟨hc, hi⟩)
  · simpa [hi] using h
set_option maxRecDepth 65536 in
theorem w_c0 : (Jvm.Cond.code x code maxLocals ret).before args0 about1 = true := code_word (m := ⟨1, 1⟩) (meth := k1m1) (c := k1c1) (by decide +kernel) rfl rfl rfl (by decide +kernel)
set_option maxRecDepth 65536 in
theorem w_c1 : (Jvm.Cond.code ({ cls := "com/example/wirefold/wirefold/binary/Framing", name := "withIndicator", desc := "(J)Lcom/example/wirefold/wirefold/binary/Framing;" } : Jvm.MethodName) prog_8_method_8_code (6 : Nat) (Option.some (Jvm.ClassFile.FieldType.object "com/example/wirefold/wirefold/binary/Framing"))).before args0 about1 = true := code_word (m := ⟨6, 0⟩) (meth := k6m0) (c := k6c0) (by decide +kernel) rfl rfl rfl (by decide +kernel)
def codes1 : List Jvm.Cond := [Jvm.Cond.code x code maxLocals ret, Jvm.Cond.code ({ cls := "com/example/wirefold/wirefold/binary/Framing", name := "withIndicator", desc := "(J)Lcom/example/wirefold/wirefold/binary/Framing;" } : Jvm.MethodName) prog_8_method_8_code (6 : Nat) (Option.some (Jvm.ClassFile.FieldType.object "com/example/wirefold/wirefold/binary/Framing"))]
set_option maxRecDepth 65536 in
theorem codes_eq : words1.filter isCode = codes1 := rfl
theorem w_codes : ∀ c ∈ words1.filter isCode, c.before args0 about1 = true := by
  rw [codes_eq]
  intro c hc
  simp only [codes1, List.mem_cons, List.not_mem_nil, or_false] at hc
  rcases hc with rfl | rfl
  · exact w_c0
  · exact w_c1
set_option maxRecDepth 65536 in
theorem w_t1 : words1.all (fun c => isCode c || c.before args0 about1) = true := by decide +kernel
theorem w_tables : (allAtoms (Jvm.Cond.code x code maxLocals ret :: tables_1)).before args0 about1 = true := by
  rw [allAtoms_all]
  show words1.all (fun c => c.before args0 about1) = true
  refine all_split ?_ w_codes
  rw [w_t1]
set_option maxRecDepth 65536 in
theorem w_case : (Jvm.Cond.and given_1 narrow_1).before args0 about1 = true := by decide +kernel
theorem w_applies : (headSpec (Jvm.Cond.code x code maxLocals ret :: tables_1) room_1).applies x e0.platform about1 = true :=
  (Spec.applies_iff w_frames).mpr ⟨w_running, w_runnable, w_alone, w_named, w_hears, w_ripe, w_room, w_tables⟩
theorem atStart : AtStart classFile x code maxLocals ret World_1 tables_1 room_1 Calls_1 rest_1 Pre_1 launch0 p0 e0 about1 theMethod args0 below0 :=
  ⟨lists_1, trivial, launch0.admits_env _ _ _, launch0.least_env, fairChoices_fair.cas, fairChoices_fair.clock, w_frames, w_args, w_heap, w_applies, trivial, trivial, w_case⟩
end start1
theorem witness_1 : WitnessClaimed_1 := ⟨start1.p0, start1.e0, start1.about1, start1.theMethod, start1.args0, start1.below0, start1.atStart⟩
end Jvm.Pilot.@@N@@
