import JvmDerived
import JvmDerived.Pilot.@@N@@Statement
import JvmDerived.Pilot.@@N@@Code
set_option linter.unusedVariables false
set_option linter.unusedSimpArgs false
namespace Jvm.RoadKit
open Sem ClassFile Op Lib Jvm.Stand Jvm.Free Jvm.LawKit
section New
variable {p : Program} {l : Launch} {e : Env} {R : Room} {s : State} {m : MethodId} {args : Array Value} {below : List Frame} {meth : Method} {c : Code} {T : State} {locs : List Loc} {cells slots : Nat}
theorem retI (X : Stand p l e R s m args below meth c T locs cells slots) (hx : p.tables.exec = Jvm.exec) {pc : Nat} {Ls : Array Slot} {z : Int32} {rest : List Value} (hret : meth.sig.returnType = some .int) (hd : decode c.code pc = .ok (.ireturn, 1)) {fs : List Frame}
    (hl : ∀ (f : JFrame) (acts : List Action), f.method = m → f.locked = none → f.entered = [] → (doReturn e (T.setTop f) acts (some (.int z))).1 = T.setFrames fs) : Steps p.tables e below (T.setTop (mkF m pc Ls (.int z :: rest))) (T.setFrames fs) := by
  have hm' : T.vm.method? m = some meth := X.method'
  have hn : narrow .int (.int z) = .int z := rfl
  show Steps p.tables e below (T.setTop { method := m, pc := pc, locals := Ls, stack := _ :: rest, locked := none }) _
  jvm_step X.here [X.here.top, hx, hd, hm', hret, hn]
  first | (intro acts; rw [hl _ acts rfl rfl rfl]) | rw [hl _ _ rfl rfl rfl]
  exact Steps.refl _
end New
end Jvm.RoadKit
namespace Jvm.Pilot.@@N@@
open Jvm Jvm.ClassFile Sem Op Lib Jvm.Free Jvm.Stand Jvm.LawKit Jvm.RoadKit Bundle Jvm.Pilot.@@N@@.Jvm.D
theorem own_pn0 : plainName "com/example/castd/castd/mqtt/VariableByteInteger" = true := by first | (simp [plainName, overriddenIn]; done) | decide +kernel
theorem own_pd25 : parseMethodDescriptor "([BI)I" = some ⟨[(.array .byte), .int], some .int⟩ := by decide +kernel
theorem own_pn26 : plainName "com/example/castd/castd/mqtt/VariableByteIntegerLengthPinLaw" = true := by first | (simp [plainName, overriddenIn]; done) | decide +kernel
theorem own_ne {v k : Int32} {K : Int} (h : ¬ v = k) (hk : k.toInt = K) : v.toInt ≠ K := fun q => h (Int32.toInt_inj.mp (q.trans hk.symm))
theorem own_exh (p : Int32) (h0 : ¬ (p &&& (3 : Int32)) = (0 : Int32)) (h1 : ¬ (p &&& (3 : Int32)) = (1 : Int32)) (h2 : ¬ (p &&& (3 : Int32)) = (2 : Int32)) : (p &&& (3 : Int32)) = (3 : Int32) := by
  have r := c_mask p 3 2 (by decide) (by decide)
  have n0 := own_ne (K := 0) h0 (by decide)
  have n1 := own_ne (K := 1) h1 (by decide)
  have n2 := own_ne (K := 2) h2 (by decide)
  refine Int32.toInt_inj.mp ?_
  rw [show (3 : Int32).toInt = 3 from by decide]
  omega
theorem own_clr (y : Int32) : ((nar .byte ((y &&& (127 : Int32)).toInt8.toInt32)) &&& (128 : Int32)) = (0 : Int32) := by
  have h1 := c_mask y 127 7 (by decide) (by decide)
  have h2 := c_i2b (y &&& 127)
  have h3 : ((y &&& (127 : Int32)).toInt8.toInt32) = (y &&& 127) := Int32.toInt_inj.mp (by omega)
  have h4 : nar .byte ((y &&& (127 : Int32)).toInt8.toInt32) = (y &&& 127) := by
    show (((y &&& (127 : Int32)).toInt8.toInt32)).toInt8.toInt32 = _
    rw [h3, h3]
  rw [h4, Int32.and_assoc, show (127 : Int32) &&& 128 = 0 from by decide, Int32.and_zero]
-- body 1, variant 0
theorem own_d1_0 : decode prog_95_method_3_code 0 = .ok (.iconst 1, 1) := by decide +kernel
theorem own_d1_1 : decode prog_95_method_3_code 1 = .ok (.istore_n 2, 1) := by decide +kernel
theorem own_d1_2 : decode prog_95_method_3_code 2 = .ok (.aload_n 0, 1) := by decide +kernel
theorem own_d1_3 : decode prog_95_method_3_code 3 = .ok (.iload_n 1, 1) := by decide +kernel
theorem own_d1_4 : decode prog_95_method_3_code 4 = .ok (.iload_n 2, 1) := by decide +kernel
theorem own_d1_5 : decode prog_95_method_3_code 5 = .ok (.iadd, 1) := by decide +kernel
theorem own_d1_6 : decode prog_95_method_3_code 6 = .ok (.iconst 1, 1) := by decide +kernel
theorem own_d1_7 : decode prog_95_method_3_code 7 = .ok (.isub, 1) := by decide +kernel
theorem own_d1_8 : decode prog_95_method_3_code 8 = .ok (.baload, 1) := by decide +kernel
theorem own_d1_9 : decode prog_95_method_3_code 9 = .ok (.sipush 128, 3) := by decide +kernel
theorem own_d1_12 : decode prog_95_method_3_code 12 = .ok (.iand, 1) := by decide +kernel
theorem own_d1_13 : decode prog_95_method_3_code 13 = .ok (.ifCond .eq 9, 3) := by decide +kernel
theorem own_d1_16 : decode prog_95_method_3_code 16 = .ok (.iinc 2 1, 3) := by decide +kernel
theorem own_d1_19 : decode prog_95_method_3_code 19 = .ok (.goto (-17), 3) := by decide +kernel
theorem own_d1_22 : decode prog_95_method_3_code 22 = .ok (.iload_n 2, 1) := by decide +kernel
theorem own_d1_23 : decode prog_95_method_3_code 23 = .ok (.ireturn, 1) := by decide +kernel
theorem own_v0_ef1 (m : MethodId) (x0 : Addr) : entryFrame m #[(.ref x0), (.int (0 : Int32))] 3 = mkF m 0 #[.val (.ref x0), .val (.int (0 : Int32)), .unset] [] := by first | (simp [entryFrame, mkF, argsToLocals, Value.category]; done) | rfl
def own_v0_f1 (x0 : Int32) (x1 : Int32) (x2 : Int32) : Int32 := if (x0 &&& (128 : Int32)) = (0 : Int32) then (1 : Int32)
    else if (x1 &&& (128 : Int32)) = (0 : Int32) then (2 : Int32)
      else if (x2 &&& (128 : Int32)) = (0 : Int32) then (3 : Int32)
        else (4 : Int32)
def own_v0_Q1 (Z : State) (a1 : Addr) (k_a1 : ClassId) (x0 : Int32) (x1 : Int32) (x2 : Int32) (x3 : Int32) (x4 : Int32) (x5 : Int32) (x6 : Int32) (x7 : Int32) (h0 : Heap) (n0 : Nat) (v : Option Value) (h : Heap) (L : List Loc) : Prop := v = some (.int (own_v0_f1 x0 x1 x2)) ∧ Fr n0 L ∧ h = h0
set_option maxRecDepth 65536 in
set_option maxHeartbeats 40000000 in
theorem own_v0_rm1 (l : Launch) (Z : State) (a0 : Array Value) (hw : ∀ d ∈ tables_1, d.before a0 Z = true) (ws : List Jvm.Cond) (a1 : Addr) (k_a1 : ClassId) (x0 : Int32) (x1 : Int32) (x2 : Int32) (x3 : Int32) (x4 : Int32) (x5 : Int32) (x6 : Int32) (x7 : Int32) (h0 : Heap) (n0 : Nat) (Z0 : n0 ≤ h0.size) (V_a1 : Arv Z h0 a1 k_a1 .byte (8 : Int32) [(.int x0), (.int x1), (.int x2), (.int x3), (.int x4), (.int x5), (.int x6), (.int x7)] (.int (0 : Int32))) (hz : ¬ (x0 &&& (128 : Int32)) = (0 : Int32) → ¬ (x1 &&& (128 : Int32)) = (0 : Int32) → ¬ (x2 &&& (128 : Int32)) = (0 : Int32) → (x3 &&& (128 : Int32)) = (0 : Int32)) :
    MetFree l (⟨"com/example/castd/castd/mqtt/VariableByteInteger", "length", "([BI)I"⟩ : MethodName) (head1 (Jvm.Cond.code (⟨"com/example/castd/castd/mqtt/VariableByteInteger", "length", "([BI)I"⟩ : MethodName) prog_95_method_3_code 3 (some .int) :: ws) ({ frames := 0, cells := 0, slots := 0, locals := 0 } : Room)) (fun a U => a = #[(.ref a1), (.int (0 : Int32))] ∧ Z.Warmed39 U.vm ∧ U.heap = h0) (fun _ _ _ _ _ => True) (fun _ U o U' => ∃ v L, o = .returned v ∧ own_v0_Q1 Z a1 k_a1 x0 x1 x2 x3 x4 x5 x6 x7 h0 n0 v U'.heap L ∧ FrameEnd U o U' L ({ frames := 0, cells := 0, slots := 0, locals := 0 } : Room).cells ({ frames := 0, cells := 0, slots := 0, locals := 0 } : Room).slots) := by
  refine MetFree.of_bodySF (plainFor_of_name own_pn0) hisR ?_
  intro p e s m args below meth c s₁ Bd hml0 hP hK
  obtain ⟨rfl, hZ, hh⟩ := hP
  have hx := Bd.exec
  have hby := Bd.bytes
  have hml : c.maxLocals = 3 := hml0
  have hown : s.vm.findClass "com/example/castd/castd/mqtt/VariableByteInteger" = some m.cls := findClass_of_methodNamed Bd.named
  have hnm := (name_of_methodNamed Bd.named Bd.method).1
  have X0 : Stand p l e ({ frames := 0, cells := 0, slots := 0, locals := 0 } : Room) s m #[(.ref a1), (.int (0 : Int32))] below meth c s₁ [] 0 0 := Stand.of_body Bd
  have e0 : s₁.heap = h0 := by rw [← hh, Bd.state]; rfl
  have N0 := Fr.nil n0
  have pre0 : ∀ t, Steps p.tables e below (s₁.setTop (mkF m 0 #[.val (.ref a1), .val (.int (0 : Int32)), .unset] [])) t → Steps p.tables e below (s₁.setTop (entryFrame m #[(.ref a1), (.int (0 : Int32))] 3)) t := fun t k => castTop (own_v0_ef1 m a1) k
  obtain ⟨cl1, Ar1, qk1, Sz1, Nn1, Hs1, Gf1⟩ := id V_a1
  have hin1 : ¬ ((0 : Int32) < 0 ∨ cl1.slots.size ≤ ((0 : Int32)).toNatClampNeg) := inb_of Sz1 ⟨by decide, by decide⟩
  have hat1 : cl1.slots[((0 : Int32)).toNatClampNeg]? = some (.int x0) := Has.at Hs1 hin1 rfl
  have k2 : ∀ t, Steps p.tables e below (s₁.setTop (mkF m 13 #[.val (.ref a1), .val (.int (0 : Int32)), .val (.int (1 : Int32))] [(.int (x0 &&& (128 : Int32)))])) t → Steps p.tables e below (s₁.setTop (entryFrame m #[(.ref a1), (.int (0 : Int32))] 3)) t := by
    intro t kt
    refine pre0 t ?_
    show Steps p.tables e below (s₁.setTop (mkF m 0 #[.val (.ref a1), .val (.int (0 : Int32)), .unset] [])) _
    refine XS.iconst X0.here hx rfl (hb hby own_d1_0) ?_
    show Steps p.tables e below (s₁.setTop (mkF m 1 #[.val (.ref a1), .val (.int (0 : Int32)), .unset] [(.int (1 : Int32))])) _
    refine XS.istoreN X0.here hx rfl (hb hby own_d1_1) rfl (l' := #[.val (.ref a1), .val (.int (0 : Int32)), .val (.int (1 : Int32))]) rfl ?_
    show Steps p.tables e below (s₁.setTop (mkF m 2 #[.val (.ref a1), .val (.int (0 : Int32)), .val (.int (1 : Int32))] [])) _
    refine XS.aloadN X0.here hx rfl (hb hby own_d1_2) rfl rfl ?_
    show Steps p.tables e below (s₁.setTop (mkF m 3 #[.val (.ref a1), .val (.int (0 : Int32)), .val (.int (1 : Int32))] [(.ref a1)])) _
    refine XS.iloadN X0.here hx rfl (hb hby own_d1_3) rfl ?_
    show Steps p.tables e below (s₁.setTop (mkF m 4 #[.val (.ref a1), .val (.int (0 : Int32)), .val (.int (1 : Int32))] [(.int (0 : Int32)), (.ref a1)])) _
    refine XS.iloadN X0.here hx rfl (hb hby own_d1_4) rfl ?_
    show Steps p.tables e below (s₁.setTop (mkF m 5 #[.val (.ref a1), .val (.int (0 : Int32)), .val (.int (1 : Int32))] [(.int (1 : Int32)), (.int (0 : Int32)), (.ref a1)])) _
    refine XS.iadd X0.here hx rfl (hb hby own_d1_5) rfl ?_
    show Steps p.tables e below (s₁.setTop (mkF m 6 #[.val (.ref a1), .val (.int (0 : Int32)), .val (.int (1 : Int32))] [(.int (1 : Int32)), (.ref a1)])) _
    refine XS.iconst X0.here hx rfl (hb hby own_d1_6) ?_
    show Steps p.tables e below (s₁.setTop (mkF m 7 #[.val (.ref a1), .val (.int (0 : Int32)), .val (.int (1 : Int32))] [(.int (1 : Int32)), (.int (1 : Int32)), (.ref a1)])) _
    refine XS.isub X0.here hx rfl (hb hby own_d1_7) rfl ?_
    show Steps p.tables e below (s₁.setTop (mkF m 8 #[.val (.ref a1), .val (.int (0 : Int32)), .val (.int (1 : Int32))] [(.int (0 : Int32)), (.ref a1)])) _
    refine X0.baloadBytes hx (j := (0 : Int32)) (v := (.int x0)) (by rw [e0]; exact Ar1.1) (State.isArrayOf_alike hZ.alike Ar1.2.1) Ar1.2.2 hin1 hat1 (g := (mkF m 8 #[.val (.ref a1), .val (.int (0 : Int32)), .val (.int (1 : Int32))] [(.int (0 : Int32)), (.ref a1)])) rfl rfl (hb hby own_d1_8) _ ?_
    show Steps p.tables e below (s₁.setTop (mkF m 9 #[.val (.ref a1), .val (.int (0 : Int32)), .val (.int (1 : Int32))] [(.int x0)])) _
    refine XS.sipush X0.here hx rfl (hb hby own_d1_9) ?_
    show Steps p.tables e below (s₁.setTop (mkF m 12 #[.val (.ref a1), .val (.int (0 : Int32)), .val (.int (1 : Int32))] [(.int (128 : Int32)), (.int x0)])) _
    refine XS.iand X0.here hx rfl (hb hby own_d1_12) rfl ?_
    exact kt
  by_cases hc1 : (x0 &&& (128 : Int32)) = (0 : Int32)
  ·
    obtain ⟨fs, hr, hrun, hended, hW, hsame⟩ := X0.leave (v := some (.int (1 : Int32))) (fun h => by rw [Bd.returns] at h; cases h)
    refine ⟨_, _, k2 _ ?_, hrun, hended, _, _, rfl, ?_, ⟨_, rfl⟩, hW, hsame.mono (by decide) (by decide)⟩
    · show Steps p.tables e below (s₁.setTop (mkF m 13 #[.val (.ref a1), .val (.int (0 : Int32)), .val (.int (1 : Int32))] [(.int (x0 &&& (128 : Int32)))])) _
      refine XS.ifYes X0.here hx rfl (pc0 := 13) (pc' := 22) rfl (hb hby own_d1_13) rfl ((if0 _ _).trans (teq hc1).1) (by decide) (by decide) ?_
      show Steps p.tables e below (s₁.setTop (mkF m 22 #[.val (.ref a1), .val (.int (0 : Int32)), .val (.int (1 : Int32))] [])) _
      refine XS.iloadN X0.here hx rfl (hb hby own_d1_22) rfl ?_
      show Steps p.tables e below (s₁.setTop (mkF m 23 #[.val (.ref a1), .val (.int (0 : Int32)), .val (.int (1 : Int32))] [(.int (1 : Int32))])) _
      exact retI X0 hx Bd.returns (hb hby own_d1_23) hr
    · show own_v0_Q1 Z a1 k_a1 x0 x1 x2 x3 x4 x5 x6 x7 h0 n0 _ s₁.heap _
      rw [e0]
      exact ⟨(by rw [own_v0_f1, if_pos hc1]), N0, rfl⟩
  ·
    obtain ⟨cl3, Ar3, qk3, Sz3, Nn3, Hs3, Gf3⟩ := id V_a1
    have hin3 : ¬ ((1 : Int32) < 0 ∨ cl3.slots.size ≤ ((1 : Int32)).toNatClampNeg) := inb_of Sz3 ⟨by decide, by decide⟩
    have hat3 : cl3.slots[((1 : Int32)).toNatClampNeg]? = some (.int x1) := Has.at Hs3 hin3 rfl
    have k4 : ∀ t, Steps p.tables e below (s₁.setTop (mkF m 13 #[.val (.ref a1), .val (.int (0 : Int32)), .val (.int (2 : Int32))] [(.int (x1 &&& (128 : Int32)))])) t → Steps p.tables e below (s₁.setTop (entryFrame m #[(.ref a1), (.int (0 : Int32))] 3)) t := by
      intro t kt
      refine k2 t ?_
      show Steps p.tables e below (s₁.setTop (mkF m 13 #[.val (.ref a1), .val (.int (0 : Int32)), .val (.int (1 : Int32))] [(.int (x0 &&& (128 : Int32)))])) _
      refine XS.ifNo X0.here hx rfl (hb hby own_d1_13) rfl ((if0 _ _).trans (feq hc1).1) ?_
      show Steps p.tables e below (s₁.setTop (mkF m 16 #[.val (.ref a1), .val (.int (0 : Int32)), .val (.int (1 : Int32))] [])) _
      refine XS.iinc X0.here hx rfl (hb hby own_d1_16) rfl (l' := #[.val (.ref a1), .val (.int (0 : Int32)), .val (.int (2 : Int32))]) rfl ?_
      show Steps p.tables e below (s₁.setTop (mkF m 19 #[.val (.ref a1), .val (.int (0 : Int32)), .val (.int (2 : Int32))] [])) _
      refine XS.goto X0.here hx rfl (pc0 := 19) (pc' := 2) rfl (hb hby own_d1_19) (by decide) (by decide) ?_
      show Steps p.tables e below (s₁.setTop (mkF m 2 #[.val (.ref a1), .val (.int (0 : Int32)), .val (.int (2 : Int32))] [])) _
      refine XS.aloadN X0.here hx rfl (hb hby own_d1_2) rfl rfl ?_
      show Steps p.tables e below (s₁.setTop (mkF m 3 #[.val (.ref a1), .val (.int (0 : Int32)), .val (.int (2 : Int32))] [(.ref a1)])) _
      refine XS.iloadN X0.here hx rfl (hb hby own_d1_3) rfl ?_
      show Steps p.tables e below (s₁.setTop (mkF m 4 #[.val (.ref a1), .val (.int (0 : Int32)), .val (.int (2 : Int32))] [(.int (0 : Int32)), (.ref a1)])) _
      refine XS.iloadN X0.here hx rfl (hb hby own_d1_4) rfl ?_
      show Steps p.tables e below (s₁.setTop (mkF m 5 #[.val (.ref a1), .val (.int (0 : Int32)), .val (.int (2 : Int32))] [(.int (2 : Int32)), (.int (0 : Int32)), (.ref a1)])) _
      refine XS.iadd X0.here hx rfl (hb hby own_d1_5) rfl ?_
      show Steps p.tables e below (s₁.setTop (mkF m 6 #[.val (.ref a1), .val (.int (0 : Int32)), .val (.int (2 : Int32))] [(.int (2 : Int32)), (.ref a1)])) _
      refine XS.iconst X0.here hx rfl (hb hby own_d1_6) ?_
      show Steps p.tables e below (s₁.setTop (mkF m 7 #[.val (.ref a1), .val (.int (0 : Int32)), .val (.int (2 : Int32))] [(.int (1 : Int32)), (.int (2 : Int32)), (.ref a1)])) _
      refine XS.isub X0.here hx rfl (hb hby own_d1_7) rfl ?_
      show Steps p.tables e below (s₁.setTop (mkF m 8 #[.val (.ref a1), .val (.int (0 : Int32)), .val (.int (2 : Int32))] [(.int (1 : Int32)), (.ref a1)])) _
      refine X0.baloadBytes hx (j := (1 : Int32)) (v := (.int x1)) (by rw [e0]; exact Ar3.1) (State.isArrayOf_alike hZ.alike Ar3.2.1) Ar3.2.2 hin3 hat3 (g := (mkF m 8 #[.val (.ref a1), .val (.int (0 : Int32)), .val (.int (2 : Int32))] [(.int (1 : Int32)), (.ref a1)])) rfl rfl (hb hby own_d1_8) _ ?_
      show Steps p.tables e below (s₁.setTop (mkF m 9 #[.val (.ref a1), .val (.int (0 : Int32)), .val (.int (2 : Int32))] [(.int x1)])) _
      refine XS.sipush X0.here hx rfl (hb hby own_d1_9) ?_
      show Steps p.tables e below (s₁.setTop (mkF m 12 #[.val (.ref a1), .val (.int (0 : Int32)), .val (.int (2 : Int32))] [(.int (128 : Int32)), (.int x1)])) _
      refine XS.iand X0.here hx rfl (hb hby own_d1_12) rfl ?_
      exact kt
    by_cases hc2 : (x1 &&& (128 : Int32)) = (0 : Int32)
    ·
      obtain ⟨fs, hr, hrun, hended, hW, hsame⟩ := X0.leave (v := some (.int (2 : Int32))) (fun h => by rw [Bd.returns] at h; cases h)
      refine ⟨_, _, k4 _ ?_, hrun, hended, _, _, rfl, ?_, ⟨_, rfl⟩, hW, hsame.mono (by decide) (by decide)⟩
      · show Steps p.tables e below (s₁.setTop (mkF m 13 #[.val (.ref a1), .val (.int (0 : Int32)), .val (.int (2 : Int32))] [(.int (x1 &&& (128 : Int32)))])) _
        refine XS.ifYes X0.here hx rfl (pc0 := 13) (pc' := 22) rfl (hb hby own_d1_13) rfl ((if0 _ _).trans (teq hc2).1) (by decide) (by decide) ?_
        show Steps p.tables e below (s₁.setTop (mkF m 22 #[.val (.ref a1), .val (.int (0 : Int32)), .val (.int (2 : Int32))] [])) _
        refine XS.iloadN X0.here hx rfl (hb hby own_d1_22) rfl ?_
        show Steps p.tables e below (s₁.setTop (mkF m 23 #[.val (.ref a1), .val (.int (0 : Int32)), .val (.int (2 : Int32))] [(.int (2 : Int32))])) _
        exact retI X0 hx Bd.returns (hb hby own_d1_23) hr
      · show own_v0_Q1 Z a1 k_a1 x0 x1 x2 x3 x4 x5 x6 x7 h0 n0 _ s₁.heap _
        rw [e0]
        exact ⟨(by rw [own_v0_f1, if_neg hc1, if_pos hc2]), N0, rfl⟩
    ·
      obtain ⟨cl5, Ar5, qk5, Sz5, Nn5, Hs5, Gf5⟩ := id V_a1
      have hin5 : ¬ ((2 : Int32) < 0 ∨ cl5.slots.size ≤ ((2 : Int32)).toNatClampNeg) := inb_of Sz5 ⟨by decide, by decide⟩
      have hat5 : cl5.slots[((2 : Int32)).toNatClampNeg]? = some (.int x2) := Has.at Hs5 hin5 rfl
      have k6 : ∀ t, Steps p.tables e below (s₁.setTop (mkF m 13 #[.val (.ref a1), .val (.int (0 : Int32)), .val (.int (3 : Int32))] [(.int (x2 &&& (128 : Int32)))])) t → Steps p.tables e below (s₁.setTop (entryFrame m #[(.ref a1), (.int (0 : Int32))] 3)) t := by
        intro t kt
        refine k4 t ?_
        show Steps p.tables e below (s₁.setTop (mkF m 13 #[.val (.ref a1), .val (.int (0 : Int32)), .val (.int (2 : Int32))] [(.int (x1 &&& (128 : Int32)))])) _
        refine XS.ifNo X0.here hx rfl (hb hby own_d1_13) rfl ((if0 _ _).trans (feq hc2).1) ?_
        show Steps p.tables e below (s₁.setTop (mkF m 16 #[.val (.ref a1), .val (.int (0 : Int32)), .val (.int (2 : Int32))] [])) _
        refine XS.iinc X0.here hx rfl (hb hby own_d1_16) rfl (l' := #[.val (.ref a1), .val (.int (0 : Int32)), .val (.int (3 : Int32))]) rfl ?_
        show Steps p.tables e below (s₁.setTop (mkF m 19 #[.val (.ref a1), .val (.int (0 : Int32)), .val (.int (3 : Int32))] [])) _
        refine XS.goto X0.here hx rfl (pc0 := 19) (pc' := 2) rfl (hb hby own_d1_19) (by decide) (by decide) ?_
        show Steps p.tables e below (s₁.setTop (mkF m 2 #[.val (.ref a1), .val (.int (0 : Int32)), .val (.int (3 : Int32))] [])) _
        refine XS.aloadN X0.here hx rfl (hb hby own_d1_2) rfl rfl ?_
        show Steps p.tables e below (s₁.setTop (mkF m 3 #[.val (.ref a1), .val (.int (0 : Int32)), .val (.int (3 : Int32))] [(.ref a1)])) _
        refine XS.iloadN X0.here hx rfl (hb hby own_d1_3) rfl ?_
        show Steps p.tables e below (s₁.setTop (mkF m 4 #[.val (.ref a1), .val (.int (0 : Int32)), .val (.int (3 : Int32))] [(.int (0 : Int32)), (.ref a1)])) _
        refine XS.iloadN X0.here hx rfl (hb hby own_d1_4) rfl ?_
        show Steps p.tables e below (s₁.setTop (mkF m 5 #[.val (.ref a1), .val (.int (0 : Int32)), .val (.int (3 : Int32))] [(.int (3 : Int32)), (.int (0 : Int32)), (.ref a1)])) _
        refine XS.iadd X0.here hx rfl (hb hby own_d1_5) rfl ?_
        show Steps p.tables e below (s₁.setTop (mkF m 6 #[.val (.ref a1), .val (.int (0 : Int32)), .val (.int (3 : Int32))] [(.int (3 : Int32)), (.ref a1)])) _
        refine XS.iconst X0.here hx rfl (hb hby own_d1_6) ?_
        show Steps p.tables e below (s₁.setTop (mkF m 7 #[.val (.ref a1), .val (.int (0 : Int32)), .val (.int (3 : Int32))] [(.int (1 : Int32)), (.int (3 : Int32)), (.ref a1)])) _
        refine XS.isub X0.here hx rfl (hb hby own_d1_7) rfl ?_
        show Steps p.tables e below (s₁.setTop (mkF m 8 #[.val (.ref a1), .val (.int (0 : Int32)), .val (.int (3 : Int32))] [(.int (2 : Int32)), (.ref a1)])) _
        refine X0.baloadBytes hx (j := (2 : Int32)) (v := (.int x2)) (by rw [e0]; exact Ar5.1) (State.isArrayOf_alike hZ.alike Ar5.2.1) Ar5.2.2 hin5 hat5 (g := (mkF m 8 #[.val (.ref a1), .val (.int (0 : Int32)), .val (.int (3 : Int32))] [(.int (2 : Int32)), (.ref a1)])) rfl rfl (hb hby own_d1_8) _ ?_
        show Steps p.tables e below (s₁.setTop (mkF m 9 #[.val (.ref a1), .val (.int (0 : Int32)), .val (.int (3 : Int32))] [(.int x2)])) _
        refine XS.sipush X0.here hx rfl (hb hby own_d1_9) ?_
        show Steps p.tables e below (s₁.setTop (mkF m 12 #[.val (.ref a1), .val (.int (0 : Int32)), .val (.int (3 : Int32))] [(.int (128 : Int32)), (.int x2)])) _
        refine XS.iand X0.here hx rfl (hb hby own_d1_12) rfl ?_
        exact kt
      by_cases hc3 : (x2 &&& (128 : Int32)) = (0 : Int32)
      ·
        obtain ⟨fs, hr, hrun, hended, hW, hsame⟩ := X0.leave (v := some (.int (3 : Int32))) (fun h => by rw [Bd.returns] at h; cases h)
        refine ⟨_, _, k6 _ ?_, hrun, hended, _, _, rfl, ?_, ⟨_, rfl⟩, hW, hsame.mono (by decide) (by decide)⟩
        · show Steps p.tables e below (s₁.setTop (mkF m 13 #[.val (.ref a1), .val (.int (0 : Int32)), .val (.int (3 : Int32))] [(.int (x2 &&& (128 : Int32)))])) _
          refine XS.ifYes X0.here hx rfl (pc0 := 13) (pc' := 22) rfl (hb hby own_d1_13) rfl ((if0 _ _).trans (teq hc3).1) (by decide) (by decide) ?_
          show Steps p.tables e below (s₁.setTop (mkF m 22 #[.val (.ref a1), .val (.int (0 : Int32)), .val (.int (3 : Int32))] [])) _
          refine XS.iloadN X0.here hx rfl (hb hby own_d1_22) rfl ?_
          show Steps p.tables e below (s₁.setTop (mkF m 23 #[.val (.ref a1), .val (.int (0 : Int32)), .val (.int (3 : Int32))] [(.int (3 : Int32))])) _
          exact retI X0 hx Bd.returns (hb hby own_d1_23) hr
        · show own_v0_Q1 Z a1 k_a1 x0 x1 x2 x3 x4 x5 x6 x7 h0 n0 _ s₁.heap _
          rw [e0]
          exact ⟨(by rw [own_v0_f1, if_neg hc1, if_neg hc2, if_pos hc3]), N0, rfl⟩
      ·
        obtain ⟨cl7, Ar7, qk7, Sz7, Nn7, Hs7, Gf7⟩ := id V_a1
        have hin7 : ¬ ((3 : Int32) < 0 ∨ cl7.slots.size ≤ ((3 : Int32)).toNatClampNeg) := inb_of Sz7 ⟨by decide, by decide⟩
        have hat7 : cl7.slots[((3 : Int32)).toNatClampNeg]? = some (.int x3) := Has.at Hs7 hin7 rfl
        obtain ⟨fs, hr, hrun, hended, hW, hsame⟩ := X0.leave (v := some (.int (4 : Int32))) (fun h => by rw [Bd.returns] at h; cases h)
        refine ⟨_, _, k6 _ ?_, hrun, hended, _, _, rfl, ?_, ⟨_, rfl⟩, hW, hsame.mono (by decide) (by decide)⟩
        · show Steps p.tables e below (s₁.setTop (mkF m 13 #[.val (.ref a1), .val (.int (0 : Int32)), .val (.int (3 : Int32))] [(.int (x2 &&& (128 : Int32)))])) _
          refine XS.ifNo X0.here hx rfl (hb hby own_d1_13) rfl ((if0 _ _).trans (feq hc3).1) ?_
          show Steps p.tables e below (s₁.setTop (mkF m 16 #[.val (.ref a1), .val (.int (0 : Int32)), .val (.int (3 : Int32))] [])) _
          refine XS.iinc X0.here hx rfl (hb hby own_d1_16) rfl (l' := #[.val (.ref a1), .val (.int (0 : Int32)), .val (.int (4 : Int32))]) rfl ?_
          show Steps p.tables e below (s₁.setTop (mkF m 19 #[.val (.ref a1), .val (.int (0 : Int32)), .val (.int (4 : Int32))] [])) _
          refine XS.goto X0.here hx rfl (pc0 := 19) (pc' := 2) rfl (hb hby own_d1_19) (by decide) (by decide) ?_
          show Steps p.tables e below (s₁.setTop (mkF m 2 #[.val (.ref a1), .val (.int (0 : Int32)), .val (.int (4 : Int32))] [])) _
          refine XS.aloadN X0.here hx rfl (hb hby own_d1_2) rfl rfl ?_
          show Steps p.tables e below (s₁.setTop (mkF m 3 #[.val (.ref a1), .val (.int (0 : Int32)), .val (.int (4 : Int32))] [(.ref a1)])) _
          refine XS.iloadN X0.here hx rfl (hb hby own_d1_3) rfl ?_
          show Steps p.tables e below (s₁.setTop (mkF m 4 #[.val (.ref a1), .val (.int (0 : Int32)), .val (.int (4 : Int32))] [(.int (0 : Int32)), (.ref a1)])) _
          refine XS.iloadN X0.here hx rfl (hb hby own_d1_4) rfl ?_
          show Steps p.tables e below (s₁.setTop (mkF m 5 #[.val (.ref a1), .val (.int (0 : Int32)), .val (.int (4 : Int32))] [(.int (4 : Int32)), (.int (0 : Int32)), (.ref a1)])) _
          refine XS.iadd X0.here hx rfl (hb hby own_d1_5) rfl ?_
          show Steps p.tables e below (s₁.setTop (mkF m 6 #[.val (.ref a1), .val (.int (0 : Int32)), .val (.int (4 : Int32))] [(.int (4 : Int32)), (.ref a1)])) _
          refine XS.iconst X0.here hx rfl (hb hby own_d1_6) ?_
          show Steps p.tables e below (s₁.setTop (mkF m 7 #[.val (.ref a1), .val (.int (0 : Int32)), .val (.int (4 : Int32))] [(.int (1 : Int32)), (.int (4 : Int32)), (.ref a1)])) _
          refine XS.isub X0.here hx rfl (hb hby own_d1_7) rfl ?_
          show Steps p.tables e below (s₁.setTop (mkF m 8 #[.val (.ref a1), .val (.int (0 : Int32)), .val (.int (4 : Int32))] [(.int (3 : Int32)), (.ref a1)])) _
          refine X0.baloadBytes hx (j := (3 : Int32)) (v := (.int x3)) (by rw [e0]; exact Ar7.1) (State.isArrayOf_alike hZ.alike Ar7.2.1) Ar7.2.2 hin7 hat7 (g := (mkF m 8 #[.val (.ref a1), .val (.int (0 : Int32)), .val (.int (4 : Int32))] [(.int (3 : Int32)), (.ref a1)])) rfl rfl (hb hby own_d1_8) _ ?_
          show Steps p.tables e below (s₁.setTop (mkF m 9 #[.val (.ref a1), .val (.int (0 : Int32)), .val (.int (4 : Int32))] [(.int x3)])) _
          refine XS.sipush X0.here hx rfl (hb hby own_d1_9) ?_
          show Steps p.tables e below (s₁.setTop (mkF m 12 #[.val (.ref a1), .val (.int (0 : Int32)), .val (.int (4 : Int32))] [(.int (128 : Int32)), (.int x3)])) _
          refine XS.iand X0.here hx rfl (hb hby own_d1_12) rfl ?_
          show Steps p.tables e below (s₁.setTop (mkF m 13 #[.val (.ref a1), .val (.int (0 : Int32)), .val (.int (4 : Int32))] [(.int (x3 &&& (128 : Int32)))])) _
          refine XS.ifYes X0.here hx rfl (pc0 := 13) (pc' := 22) rfl (hb hby own_d1_13) rfl ((if0 _ _).trans (teq (hz hc1 hc2 hc3)).1) (by decide) (by decide) ?_
          show Steps p.tables e below (s₁.setTop (mkF m 22 #[.val (.ref a1), .val (.int (0 : Int32)), .val (.int (4 : Int32))] [])) _
          refine XS.iloadN X0.here hx rfl (hb hby own_d1_22) rfl ?_
          show Steps p.tables e below (s₁.setTop (mkF m 23 #[.val (.ref a1), .val (.int (0 : Int32)), .val (.int (4 : Int32))] [(.int (4 : Int32))])) _
          exact retI X0 hx Bd.returns (hb hby own_d1_23) hr
        · show own_v0_Q1 Z a1 k_a1 x0 x1 x2 x3 x4 x5 x6 x7 h0 n0 _ s₁.heap _
          rw [e0]
          exact ⟨(by rw [own_v0_f1, if_neg hc1, if_neg hc2, if_neg hc3]), N0, rfl⟩
-- body 1, variant 1
theorem own_v1_ef1 (m : MethodId) (x0 : Addr) : entryFrame m #[(.ref x0), (.int (1 : Int32))] 3 = mkF m 0 #[.val (.ref x0), .val (.int (1 : Int32)), .unset] [] := by first | (simp [entryFrame, mkF, argsToLocals, Value.category]; done) | rfl
def own_v1_f1 (x1 : Int32) (x2 : Int32) (x3 : Int32) : Int32 := if (x1 &&& (128 : Int32)) = (0 : Int32) then (1 : Int32)
    else if (x2 &&& (128 : Int32)) = (0 : Int32) then (2 : Int32)
      else if (x3 &&& (128 : Int32)) = (0 : Int32) then (3 : Int32)
        else (4 : Int32)
def own_v1_Q1 (Z : State) (a1 : Addr) (k_a1 : ClassId) (x0 : Int32) (x1 : Int32) (x2 : Int32) (x3 : Int32) (x4 : Int32) (x5 : Int32) (x6 : Int32) (x7 : Int32) (h0 : Heap) (n0 : Nat) (v : Option Value) (h : Heap) (L : List Loc) : Prop := v = some (.int (own_v1_f1 x1 x2 x3)) ∧ Fr n0 L ∧ h = h0
set_option maxRecDepth 65536 in
set_option maxHeartbeats 40000000 in
theorem own_v1_rm1 (l : Launch) (Z : State) (a0 : Array Value) (hw : ∀ d ∈ tables_1, d.before a0 Z = true) (ws : List Jvm.Cond) (a1 : Addr) (k_a1 : ClassId) (x0 : Int32) (x1 : Int32) (x2 : Int32) (x3 : Int32) (x4 : Int32) (x5 : Int32) (x6 : Int32) (x7 : Int32) (h0 : Heap) (n0 : Nat) (Z0 : n0 ≤ h0.size) (V_a1 : Arv Z h0 a1 k_a1 .byte (8 : Int32) [(.int x0), (.int x1), (.int x2), (.int x3), (.int x4), (.int x5), (.int x6), (.int x7)] (.int (0 : Int32))) (hz : ¬ (x1 &&& (128 : Int32)) = (0 : Int32) → ¬ (x2 &&& (128 : Int32)) = (0 : Int32) → ¬ (x3 &&& (128 : Int32)) = (0 : Int32) → (x4 &&& (128 : Int32)) = (0 : Int32)) :
    MetFree l (⟨"com/example/castd/castd/mqtt/VariableByteInteger", "length", "([BI)I"⟩ : MethodName) (head1 (Jvm.Cond.code (⟨"com/example/castd/castd/mqtt/VariableByteInteger", "length", "([BI)I"⟩ : MethodName) prog_95_method_3_code 3 (some .int) :: ws) ({ frames := 0, cells := 0, slots := 0, locals := 0 } : Room)) (fun a U => a = #[(.ref a1), (.int (1 : Int32))] ∧ Z.Warmed39 U.vm ∧ U.heap = h0) (fun _ _ _ _ _ => True) (fun _ U o U' => ∃ v L, o = .returned v ∧ own_v1_Q1 Z a1 k_a1 x0 x1 x2 x3 x4 x5 x6 x7 h0 n0 v U'.heap L ∧ FrameEnd U o U' L ({ frames := 0, cells := 0, slots := 0, locals := 0 } : Room).cells ({ frames := 0, cells := 0, slots := 0, locals := 0 } : Room).slots) := by
  refine MetFree.of_bodySF (plainFor_of_name own_pn0) hisR ?_
  intro p e s m args below meth c s₁ Bd hml0 hP hK
  obtain ⟨rfl, hZ, hh⟩ := hP
  have hx := Bd.exec
  have hby := Bd.bytes
  have hml : c.maxLocals = 3 := hml0
  have hown : s.vm.findClass "com/example/castd/castd/mqtt/VariableByteInteger" = some m.cls := findClass_of_methodNamed Bd.named
  have hnm := (name_of_methodNamed Bd.named Bd.method).1
  have X0 : Stand p l e ({ frames := 0, cells := 0, slots := 0, locals := 0 } : Room) s m #[(.ref a1), (.int (1 : Int32))] below meth c s₁ [] 0 0 := Stand.of_body Bd
  have e0 : s₁.heap = h0 := by rw [← hh, Bd.state]; rfl
  have N0 := Fr.nil n0
  have pre0 : ∀ t, Steps p.tables e below (s₁.setTop (mkF m 0 #[.val (.ref a1), .val (.int (1 : Int32)), .unset] [])) t → Steps p.tables e below (s₁.setTop (entryFrame m #[(.ref a1), (.int (1 : Int32))] 3)) t := fun t k => castTop (own_v1_ef1 m a1) k
  obtain ⟨cl1, Ar1, qk1, Sz1, Nn1, Hs1, Gf1⟩ := id V_a1
  have hin1 : ¬ ((1 : Int32) < 0 ∨ cl1.slots.size ≤ ((1 : Int32)).toNatClampNeg) := inb_of Sz1 ⟨by decide, by decide⟩
  have hat1 : cl1.slots[((1 : Int32)).toNatClampNeg]? = some (.int x1) := Has.at Hs1 hin1 rfl
  have k2 : ∀ t, Steps p.tables e below (s₁.setTop (mkF m 13 #[.val (.ref a1), .val (.int (1 : Int32)), .val (.int (1 : Int32))] [(.int (x1 &&& (128 : Int32)))])) t → Steps p.tables e below (s₁.setTop (entryFrame m #[(.ref a1), (.int (1 : Int32))] 3)) t := by
    intro t kt
    refine pre0 t ?_
    show Steps p.tables e below (s₁.setTop (mkF m 0 #[.val (.ref a1), .val (.int (1 : Int32)), .unset] [])) _
    refine XS.iconst X0.here hx rfl (hb hby own_d1_0) ?_
    show Steps p.tables e below (s₁.setTop (mkF m 1 #[.val (.ref a1), .val (.int (1 : Int32)), .unset] [(.int (1 : Int32))])) _
    refine XS.istoreN X0.here hx rfl (hb hby own_d1_1) rfl (l' := #[.val (.ref a1), .val (.int (1 : Int32)), .val (.int (1 : Int32))]) rfl ?_
    show Steps p.tables e below (s₁.setTop (mkF m 2 #[.val (.ref a1), .val (.int (1 : Int32)), .val (.int (1 : Int32))] [])) _
    refine XS.aloadN X0.here hx rfl (hb hby own_d1_2) rfl rfl ?_
    show Steps p.tables e below (s₁.setTop (mkF m 3 #[.val (.ref a1), .val (.int (1 : Int32)), .val (.int (1 : Int32))] [(.ref a1)])) _
    refine XS.iloadN X0.here hx rfl (hb hby own_d1_3) rfl ?_
    show Steps p.tables e below (s₁.setTop (mkF m 4 #[.val (.ref a1), .val (.int (1 : Int32)), .val (.int (1 : Int32))] [(.int (1 : Int32)), (.ref a1)])) _
    refine XS.iloadN X0.here hx rfl (hb hby own_d1_4) rfl ?_
    show Steps p.tables e below (s₁.setTop (mkF m 5 #[.val (.ref a1), .val (.int (1 : Int32)), .val (.int (1 : Int32))] [(.int (1 : Int32)), (.int (1 : Int32)), (.ref a1)])) _
    refine XS.iadd X0.here hx rfl (hb hby own_d1_5) rfl ?_
    show Steps p.tables e below (s₁.setTop (mkF m 6 #[.val (.ref a1), .val (.int (1 : Int32)), .val (.int (1 : Int32))] [(.int (2 : Int32)), (.ref a1)])) _
    refine XS.iconst X0.here hx rfl (hb hby own_d1_6) ?_
    show Steps p.tables e below (s₁.setTop (mkF m 7 #[.val (.ref a1), .val (.int (1 : Int32)), .val (.int (1 : Int32))] [(.int (1 : Int32)), (.int (2 : Int32)), (.ref a1)])) _
    refine XS.isub X0.here hx rfl (hb hby own_d1_7) rfl ?_
    show Steps p.tables e below (s₁.setTop (mkF m 8 #[.val (.ref a1), .val (.int (1 : Int32)), .val (.int (1 : Int32))] [(.int (1 : Int32)), (.ref a1)])) _
    refine X0.baloadBytes hx (j := (1 : Int32)) (v := (.int x1)) (by rw [e0]; exact Ar1.1) (State.isArrayOf_alike hZ.alike Ar1.2.1) Ar1.2.2 hin1 hat1 (g := (mkF m 8 #[.val (.ref a1), .val (.int (1 : Int32)), .val (.int (1 : Int32))] [(.int (1 : Int32)), (.ref a1)])) rfl rfl (hb hby own_d1_8) _ ?_
    show Steps p.tables e below (s₁.setTop (mkF m 9 #[.val (.ref a1), .val (.int (1 : Int32)), .val (.int (1 : Int32))] [(.int x1)])) _
    refine XS.sipush X0.here hx rfl (hb hby own_d1_9) ?_
    show Steps p.tables e below (s₁.setTop (mkF m 12 #[.val (.ref a1), .val (.int (1 : Int32)), .val (.int (1 : Int32))] [(.int (128 : Int32)), (.int x1)])) _
    refine XS.iand X0.here hx rfl (hb hby own_d1_12) rfl ?_
    exact kt
  by_cases hc1 : (x1 &&& (128 : Int32)) = (0 : Int32)
  ·
    obtain ⟨fs, hr, hrun, hended, hW, hsame⟩ := X0.leave (v := some (.int (1 : Int32))) (fun h => by rw [Bd.returns] at h; cases h)
    refine ⟨_, _, k2 _ ?_, hrun, hended, _, _, rfl, ?_, ⟨_, rfl⟩, hW, hsame.mono (by decide) (by decide)⟩
    · show Steps p.tables e below (s₁.setTop (mkF m 13 #[.val (.ref a1), .val (.int (1 : Int32)), .val (.int (1 : Int32))] [(.int (x1 &&& (128 : Int32)))])) _
      refine XS.ifYes X0.here hx rfl (pc0 := 13) (pc' := 22) rfl (hb hby own_d1_13) rfl ((if0 _ _).trans (teq hc1).1) (by decide) (by decide) ?_
      show Steps p.tables e below (s₁.setTop (mkF m 22 #[.val (.ref a1), .val (.int (1 : Int32)), .val (.int (1 : Int32))] [])) _
      refine XS.iloadN X0.here hx rfl (hb hby own_d1_22) rfl ?_
      show Steps p.tables e below (s₁.setTop (mkF m 23 #[.val (.ref a1), .val (.int (1 : Int32)), .val (.int (1 : Int32))] [(.int (1 : Int32))])) _
      exact retI X0 hx Bd.returns (hb hby own_d1_23) hr
    · show own_v1_Q1 Z a1 k_a1 x0 x1 x2 x3 x4 x5 x6 x7 h0 n0 _ s₁.heap _
      rw [e0]
      exact ⟨(by rw [own_v1_f1, if_pos hc1]), N0, rfl⟩
  ·
    obtain ⟨cl3, Ar3, qk3, Sz3, Nn3, Hs3, Gf3⟩ := id V_a1
    have hin3 : ¬ ((2 : Int32) < 0 ∨ cl3.slots.size ≤ ((2 : Int32)).toNatClampNeg) := inb_of Sz3 ⟨by decide, by decide⟩
    have hat3 : cl3.slots[((2 : Int32)).toNatClampNeg]? = some (.int x2) := Has.at Hs3 hin3 rfl
    have k4 : ∀ t, Steps p.tables e below (s₁.setTop (mkF m 13 #[.val (.ref a1), .val (.int (1 : Int32)), .val (.int (2 : Int32))] [(.int (x2 &&& (128 : Int32)))])) t → Steps p.tables e below (s₁.setTop (entryFrame m #[(.ref a1), (.int (1 : Int32))] 3)) t := by
      intro t kt
      refine k2 t ?_
      show Steps p.tables e below (s₁.setTop (mkF m 13 #[.val (.ref a1), .val (.int (1 : Int32)), .val (.int (1 : Int32))] [(.int (x1 &&& (128 : Int32)))])) _
      refine XS.ifNo X0.here hx rfl (hb hby own_d1_13) rfl ((if0 _ _).trans (feq hc1).1) ?_
      show Steps p.tables e below (s₁.setTop (mkF m 16 #[.val (.ref a1), .val (.int (1 : Int32)), .val (.int (1 : Int32))] [])) _
      refine XS.iinc X0.here hx rfl (hb hby own_d1_16) rfl (l' := #[.val (.ref a1), .val (.int (1 : Int32)), .val (.int (2 : Int32))]) rfl ?_
      show Steps p.tables e below (s₁.setTop (mkF m 19 #[.val (.ref a1), .val (.int (1 : Int32)), .val (.int (2 : Int32))] [])) _
      refine XS.goto X0.here hx rfl (pc0 := 19) (pc' := 2) rfl (hb hby own_d1_19) (by decide) (by decide) ?_
      show Steps p.tables e below (s₁.setTop (mkF m 2 #[.val (.ref a1), .val (.int (1 : Int32)), .val (.int (2 : Int32))] [])) _
      refine XS.aloadN X0.here hx rfl (hb hby own_d1_2) rfl rfl ?_
      show Steps p.tables e below (s₁.setTop (mkF m 3 #[.val (.ref a1), .val (.int (1 : Int32)), .val (.int (2 : Int32))] [(.ref a1)])) _
      refine XS.iloadN X0.here hx rfl (hb hby own_d1_3) rfl ?_
      show Steps p.tables e below (s₁.setTop (mkF m 4 #[.val (.ref a1), .val (.int (1 : Int32)), .val (.int (2 : Int32))] [(.int (1 : Int32)), (.ref a1)])) _
      refine XS.iloadN X0.here hx rfl (hb hby own_d1_4) rfl ?_
      show Steps p.tables e below (s₁.setTop (mkF m 5 #[.val (.ref a1), .val (.int (1 : Int32)), .val (.int (2 : Int32))] [(.int (2 : Int32)), (.int (1 : Int32)), (.ref a1)])) _
      refine XS.iadd X0.here hx rfl (hb hby own_d1_5) rfl ?_
      show Steps p.tables e below (s₁.setTop (mkF m 6 #[.val (.ref a1), .val (.int (1 : Int32)), .val (.int (2 : Int32))] [(.int (3 : Int32)), (.ref a1)])) _
      refine XS.iconst X0.here hx rfl (hb hby own_d1_6) ?_
      show Steps p.tables e below (s₁.setTop (mkF m 7 #[.val (.ref a1), .val (.int (1 : Int32)), .val (.int (2 : Int32))] [(.int (1 : Int32)), (.int (3 : Int32)), (.ref a1)])) _
      refine XS.isub X0.here hx rfl (hb hby own_d1_7) rfl ?_
      show Steps p.tables e below (s₁.setTop (mkF m 8 #[.val (.ref a1), .val (.int (1 : Int32)), .val (.int (2 : Int32))] [(.int (2 : Int32)), (.ref a1)])) _
      refine X0.baloadBytes hx (j := (2 : Int32)) (v := (.int x2)) (by rw [e0]; exact Ar3.1) (State.isArrayOf_alike hZ.alike Ar3.2.1) Ar3.2.2 hin3 hat3 (g := (mkF m 8 #[.val (.ref a1), .val (.int (1 : Int32)), .val (.int (2 : Int32))] [(.int (2 : Int32)), (.ref a1)])) rfl rfl (hb hby own_d1_8) _ ?_
      show Steps p.tables e below (s₁.setTop (mkF m 9 #[.val (.ref a1), .val (.int (1 : Int32)), .val (.int (2 : Int32))] [(.int x2)])) _
      refine XS.sipush X0.here hx rfl (hb hby own_d1_9) ?_
      show Steps p.tables e below (s₁.setTop (mkF m 12 #[.val (.ref a1), .val (.int (1 : Int32)), .val (.int (2 : Int32))] [(.int (128 : Int32)), (.int x2)])) _
      refine XS.iand X0.here hx rfl (hb hby own_d1_12) rfl ?_
      exact kt
    by_cases hc2 : (x2 &&& (128 : Int32)) = (0 : Int32)
    ·
      obtain ⟨fs, hr, hrun, hended, hW, hsame⟩ := X0.leave (v := some (.int (2 : Int32))) (fun h => by rw [Bd.returns] at h; cases h)
      refine ⟨_, _, k4 _ ?_, hrun, hended, _, _, rfl, ?_, ⟨_, rfl⟩, hW, hsame.mono (by decide) (by decide)⟩
      · show Steps p.tables e below (s₁.setTop (mkF m 13 #[.val (.ref a1), .val (.int (1 : Int32)), .val (.int (2 : Int32))] [(.int (x2 &&& (128 : Int32)))])) _
        refine XS.ifYes X0.here hx rfl (pc0 := 13) (pc' := 22) rfl (hb hby own_d1_13) rfl ((if0 _ _).trans (teq hc2).1) (by decide) (by decide) ?_
        show Steps p.tables e below (s₁.setTop (mkF m 22 #[.val (.ref a1), .val (.int (1 : Int32)), .val (.int (2 : Int32))] [])) _
        refine XS.iloadN X0.here hx rfl (hb hby own_d1_22) rfl ?_
        show Steps p.tables e below (s₁.setTop (mkF m 23 #[.val (.ref a1), .val (.int (1 : Int32)), .val (.int (2 : Int32))] [(.int (2 : Int32))])) _
        exact retI X0 hx Bd.returns (hb hby own_d1_23) hr
      · show own_v1_Q1 Z a1 k_a1 x0 x1 x2 x3 x4 x5 x6 x7 h0 n0 _ s₁.heap _
        rw [e0]
        exact ⟨(by rw [own_v1_f1, if_neg hc1, if_pos hc2]), N0, rfl⟩
    ·
      obtain ⟨cl5, Ar5, qk5, Sz5, Nn5, Hs5, Gf5⟩ := id V_a1
      have hin5 : ¬ ((3 : Int32) < 0 ∨ cl5.slots.size ≤ ((3 : Int32)).toNatClampNeg) := inb_of Sz5 ⟨by decide, by decide⟩
      have hat5 : cl5.slots[((3 : Int32)).toNatClampNeg]? = some (.int x3) := Has.at Hs5 hin5 rfl
      have k6 : ∀ t, Steps p.tables e below (s₁.setTop (mkF m 13 #[.val (.ref a1), .val (.int (1 : Int32)), .val (.int (3 : Int32))] [(.int (x3 &&& (128 : Int32)))])) t → Steps p.tables e below (s₁.setTop (entryFrame m #[(.ref a1), (.int (1 : Int32))] 3)) t := by
        intro t kt
        refine k4 t ?_
        show Steps p.tables e below (s₁.setTop (mkF m 13 #[.val (.ref a1), .val (.int (1 : Int32)), .val (.int (2 : Int32))] [(.int (x2 &&& (128 : Int32)))])) _
        refine XS.ifNo X0.here hx rfl (hb hby own_d1_13) rfl ((if0 _ _).trans (feq hc2).1) ?_
        show Steps p.tables e below (s₁.setTop (mkF m 16 #[.val (.ref a1), .val (.int (1 : Int32)), .val (.int (2 : Int32))] [])) _
        refine XS.iinc X0.here hx rfl (hb hby own_d1_16) rfl (l' := #[.val (.ref a1), .val (.int (1 : Int32)), .val (.int (3 : Int32))]) rfl ?_
        show Steps p.tables e below (s₁.setTop (mkF m 19 #[.val (.ref a1), .val (.int (1 : Int32)), .val (.int (3 : Int32))] [])) _
        refine XS.goto X0.here hx rfl (pc0 := 19) (pc' := 2) rfl (hb hby own_d1_19) (by decide) (by decide) ?_
        show Steps p.tables e below (s₁.setTop (mkF m 2 #[.val (.ref a1), .val (.int (1 : Int32)), .val (.int (3 : Int32))] [])) _
        refine XS.aloadN X0.here hx rfl (hb hby own_d1_2) rfl rfl ?_
        show Steps p.tables e below (s₁.setTop (mkF m 3 #[.val (.ref a1), .val (.int (1 : Int32)), .val (.int (3 : Int32))] [(.ref a1)])) _
        refine XS.iloadN X0.here hx rfl (hb hby own_d1_3) rfl ?_
        show Steps p.tables e below (s₁.setTop (mkF m 4 #[.val (.ref a1), .val (.int (1 : Int32)), .val (.int (3 : Int32))] [(.int (1 : Int32)), (.ref a1)])) _
        refine XS.iloadN X0.here hx rfl (hb hby own_d1_4) rfl ?_
        show Steps p.tables e below (s₁.setTop (mkF m 5 #[.val (.ref a1), .val (.int (1 : Int32)), .val (.int (3 : Int32))] [(.int (3 : Int32)), (.int (1 : Int32)), (.ref a1)])) _
        refine XS.iadd X0.here hx rfl (hb hby own_d1_5) rfl ?_
        show Steps p.tables e below (s₁.setTop (mkF m 6 #[.val (.ref a1), .val (.int (1 : Int32)), .val (.int (3 : Int32))] [(.int (4 : Int32)), (.ref a1)])) _
        refine XS.iconst X0.here hx rfl (hb hby own_d1_6) ?_
        show Steps p.tables e below (s₁.setTop (mkF m 7 #[.val (.ref a1), .val (.int (1 : Int32)), .val (.int (3 : Int32))] [(.int (1 : Int32)), (.int (4 : Int32)), (.ref a1)])) _
        refine XS.isub X0.here hx rfl (hb hby own_d1_7) rfl ?_
        show Steps p.tables e below (s₁.setTop (mkF m 8 #[.val (.ref a1), .val (.int (1 : Int32)), .val (.int (3 : Int32))] [(.int (3 : Int32)), (.ref a1)])) _
        refine X0.baloadBytes hx (j := (3 : Int32)) (v := (.int x3)) (by rw [e0]; exact Ar5.1) (State.isArrayOf_alike hZ.alike Ar5.2.1) Ar5.2.2 hin5 hat5 (g := (mkF m 8 #[.val (.ref a1), .val (.int (1 : Int32)), .val (.int (3 : Int32))] [(.int (3 : Int32)), (.ref a1)])) rfl rfl (hb hby own_d1_8) _ ?_
        show Steps p.tables e below (s₁.setTop (mkF m 9 #[.val (.ref a1), .val (.int (1 : Int32)), .val (.int (3 : Int32))] [(.int x3)])) _
        refine XS.sipush X0.here hx rfl (hb hby own_d1_9) ?_
        show Steps p.tables e below (s₁.setTop (mkF m 12 #[.val (.ref a1), .val (.int (1 : Int32)), .val (.int (3 : Int32))] [(.int (128 : Int32)), (.int x3)])) _
        refine XS.iand X0.here hx rfl (hb hby own_d1_12) rfl ?_
        exact kt
      by_cases hc3 : (x3 &&& (128 : Int32)) = (0 : Int32)
      ·
        obtain ⟨fs, hr, hrun, hended, hW, hsame⟩ := X0.leave (v := some (.int (3 : Int32))) (fun h => by rw [Bd.returns] at h; cases h)
        refine ⟨_, _, k6 _ ?_, hrun, hended, _, _, rfl, ?_, ⟨_, rfl⟩, hW, hsame.mono (by decide) (by decide)⟩
        · show Steps p.tables e below (s₁.setTop (mkF m 13 #[.val (.ref a1), .val (.int (1 : Int32)), .val (.int (3 : Int32))] [(.int (x3 &&& (128 : Int32)))])) _
          refine XS.ifYes X0.here hx rfl (pc0 := 13) (pc' := 22) rfl (hb hby own_d1_13) rfl ((if0 _ _).trans (teq hc3).1) (by decide) (by decide) ?_
          show Steps p.tables e below (s₁.setTop (mkF m 22 #[.val (.ref a1), .val (.int (1 : Int32)), .val (.int (3 : Int32))] [])) _
          refine XS.iloadN X0.here hx rfl (hb hby own_d1_22) rfl ?_
          show Steps p.tables e below (s₁.setTop (mkF m 23 #[.val (.ref a1), .val (.int (1 : Int32)), .val (.int (3 : Int32))] [(.int (3 : Int32))])) _
          exact retI X0 hx Bd.returns (hb hby own_d1_23) hr
        · show own_v1_Q1 Z a1 k_a1 x0 x1 x2 x3 x4 x5 x6 x7 h0 n0 _ s₁.heap _
          rw [e0]
          exact ⟨(by rw [own_v1_f1, if_neg hc1, if_neg hc2, if_pos hc3]), N0, rfl⟩
      ·
        obtain ⟨cl7, Ar7, qk7, Sz7, Nn7, Hs7, Gf7⟩ := id V_a1
        have hin7 : ¬ ((4 : Int32) < 0 ∨ cl7.slots.size ≤ ((4 : Int32)).toNatClampNeg) := inb_of Sz7 ⟨by decide, by decide⟩
        have hat7 : cl7.slots[((4 : Int32)).toNatClampNeg]? = some (.int x4) := Has.at Hs7 hin7 rfl
        obtain ⟨fs, hr, hrun, hended, hW, hsame⟩ := X0.leave (v := some (.int (4 : Int32))) (fun h => by rw [Bd.returns] at h; cases h)
        refine ⟨_, _, k6 _ ?_, hrun, hended, _, _, rfl, ?_, ⟨_, rfl⟩, hW, hsame.mono (by decide) (by decide)⟩
        · show Steps p.tables e below (s₁.setTop (mkF m 13 #[.val (.ref a1), .val (.int (1 : Int32)), .val (.int (3 : Int32))] [(.int (x3 &&& (128 : Int32)))])) _
          refine XS.ifNo X0.here hx rfl (hb hby own_d1_13) rfl ((if0 _ _).trans (feq hc3).1) ?_
          show Steps p.tables e below (s₁.setTop (mkF m 16 #[.val (.ref a1), .val (.int (1 : Int32)), .val (.int (3 : Int32))] [])) _
          refine XS.iinc X0.here hx rfl (hb hby own_d1_16) rfl (l' := #[.val (.ref a1), .val (.int (1 : Int32)), .val (.int (4 : Int32))]) rfl ?_
          show Steps p.tables e below (s₁.setTop (mkF m 19 #[.val (.ref a1), .val (.int (1 : Int32)), .val (.int (4 : Int32))] [])) _
          refine XS.goto X0.here hx rfl (pc0 := 19) (pc' := 2) rfl (hb hby own_d1_19) (by decide) (by decide) ?_
          show Steps p.tables e below (s₁.setTop (mkF m 2 #[.val (.ref a1), .val (.int (1 : Int32)), .val (.int (4 : Int32))] [])) _
          refine XS.aloadN X0.here hx rfl (hb hby own_d1_2) rfl rfl ?_
          show Steps p.tables e below (s₁.setTop (mkF m 3 #[.val (.ref a1), .val (.int (1 : Int32)), .val (.int (4 : Int32))] [(.ref a1)])) _
          refine XS.iloadN X0.here hx rfl (hb hby own_d1_3) rfl ?_
          show Steps p.tables e below (s₁.setTop (mkF m 4 #[.val (.ref a1), .val (.int (1 : Int32)), .val (.int (4 : Int32))] [(.int (1 : Int32)), (.ref a1)])) _
          refine XS.iloadN X0.here hx rfl (hb hby own_d1_4) rfl ?_
          show Steps p.tables e below (s₁.setTop (mkF m 5 #[.val (.ref a1), .val (.int (1 : Int32)), .val (.int (4 : Int32))] [(.int (4 : Int32)), (.int (1 : Int32)), (.ref a1)])) _
          refine XS.iadd X0.here hx rfl (hb hby own_d1_5) rfl ?_
          show Steps p.tables e below (s₁.setTop (mkF m 6 #[.val (.ref a1), .val (.int (1 : Int32)), .val (.int (4 : Int32))] [(.int (5 : Int32)), (.ref a1)])) _
          refine XS.iconst X0.here hx rfl (hb hby own_d1_6) ?_
          show Steps p.tables e below (s₁.setTop (mkF m 7 #[.val (.ref a1), .val (.int (1 : Int32)), .val (.int (4 : Int32))] [(.int (1 : Int32)), (.int (5 : Int32)), (.ref a1)])) _
          refine XS.isub X0.here hx rfl (hb hby own_d1_7) rfl ?_
          show Steps p.tables e below (s₁.setTop (mkF m 8 #[.val (.ref a1), .val (.int (1 : Int32)), .val (.int (4 : Int32))] [(.int (4 : Int32)), (.ref a1)])) _
          refine X0.baloadBytes hx (j := (4 : Int32)) (v := (.int x4)) (by rw [e0]; exact Ar7.1) (State.isArrayOf_alike hZ.alike Ar7.2.1) Ar7.2.2 hin7 hat7 (g := (mkF m 8 #[.val (.ref a1), .val (.int (1 : Int32)), .val (.int (4 : Int32))] [(.int (4 : Int32)), (.ref a1)])) rfl rfl (hb hby own_d1_8) _ ?_
          show Steps p.tables e below (s₁.setTop (mkF m 9 #[.val (.ref a1), .val (.int (1 : Int32)), .val (.int (4 : Int32))] [(.int x4)])) _
          refine XS.sipush X0.here hx rfl (hb hby own_d1_9) ?_
          show Steps p.tables e below (s₁.setTop (mkF m 12 #[.val (.ref a1), .val (.int (1 : Int32)), .val (.int (4 : Int32))] [(.int (128 : Int32)), (.int x4)])) _
          refine XS.iand X0.here hx rfl (hb hby own_d1_12) rfl ?_
          show Steps p.tables e below (s₁.setTop (mkF m 13 #[.val (.ref a1), .val (.int (1 : Int32)), .val (.int (4 : Int32))] [(.int (x4 &&& (128 : Int32)))])) _
          refine XS.ifYes X0.here hx rfl (pc0 := 13) (pc' := 22) rfl (hb hby own_d1_13) rfl ((if0 _ _).trans (teq (hz hc1 hc2 hc3)).1) (by decide) (by decide) ?_
          show Steps p.tables e below (s₁.setTop (mkF m 22 #[.val (.ref a1), .val (.int (1 : Int32)), .val (.int (4 : Int32))] [])) _
          refine XS.iloadN X0.here hx rfl (hb hby own_d1_22) rfl ?_
          show Steps p.tables e below (s₁.setTop (mkF m 23 #[.val (.ref a1), .val (.int (1 : Int32)), .val (.int (4 : Int32))] [(.int (4 : Int32))])) _
          exact retI X0 hx Bd.returns (hb hby own_d1_23) hr
        · show own_v1_Q1 Z a1 k_a1 x0 x1 x2 x3 x4 x5 x6 x7 h0 n0 _ s₁.heap _
          rw [e0]
          exact ⟨(by rw [own_v1_f1, if_neg hc1, if_neg hc2, if_neg hc3]), N0, rfl⟩
-- body 1, variant 2
theorem own_v2_ef1 (m : MethodId) (x0 : Addr) : entryFrame m #[(.ref x0), (.int (2 : Int32))] 3 = mkF m 0 #[.val (.ref x0), .val (.int (2 : Int32)), .unset] [] := by first | (simp [entryFrame, mkF, argsToLocals, Value.category]; done) | rfl
def own_v2_f1 (x2 : Int32) (x3 : Int32) (x4 : Int32) : Int32 := if (x2 &&& (128 : Int32)) = (0 : Int32) then (1 : Int32)
    else if (x3 &&& (128 : Int32)) = (0 : Int32) then (2 : Int32)
      else if (x4 &&& (128 : Int32)) = (0 : Int32) then (3 : Int32)
        else (4 : Int32)
def own_v2_Q1 (Z : State) (a1 : Addr) (k_a1 : ClassId) (x0 : Int32) (x1 : Int32) (x2 : Int32) (x3 : Int32) (x4 : Int32) (x5 : Int32) (x6 : Int32) (x7 : Int32) (h0 : Heap) (n0 : Nat) (v : Option Value) (h : Heap) (L : List Loc) : Prop := v = some (.int (own_v2_f1 x2 x3 x4)) ∧ Fr n0 L ∧ h = h0
set_option maxRecDepth 65536 in
set_option maxHeartbeats 40000000 in
theorem own_v2_rm1 (l : Launch) (Z : State) (a0 : Array Value) (hw : ∀ d ∈ tables_1, d.before a0 Z = true) (ws : List Jvm.Cond) (a1 : Addr) (k_a1 : ClassId) (x0 : Int32) (x1 : Int32) (x2 : Int32) (x3 : Int32) (x4 : Int32) (x5 : Int32) (x6 : Int32) (x7 : Int32) (h0 : Heap) (n0 : Nat) (Z0 : n0 ≤ h0.size) (V_a1 : Arv Z h0 a1 k_a1 .byte (8 : Int32) [(.int x0), (.int x1), (.int x2), (.int x3), (.int x4), (.int x5), (.int x6), (.int x7)] (.int (0 : Int32))) (hz : ¬ (x2 &&& (128 : Int32)) = (0 : Int32) → ¬ (x3 &&& (128 : Int32)) = (0 : Int32) → ¬ (x4 &&& (128 : Int32)) = (0 : Int32) → (x5 &&& (128 : Int32)) = (0 : Int32)) :
    MetFree l (⟨"com/example/castd/castd/mqtt/VariableByteInteger", "length", "([BI)I"⟩ : MethodName) (head1 (Jvm.Cond.code (⟨"com/example/castd/castd/mqtt/VariableByteInteger", "length", "([BI)I"⟩ : MethodName) prog_95_method_3_code 3 (some .int) :: ws) ({ frames := 0, cells := 0, slots := 0, locals := 0 } : Room)) (fun a U => a = #[(.ref a1), (.int (2 : Int32))] ∧ Z.Warmed39 U.vm ∧ U.heap = h0) (fun _ _ _ _ _ => True) (fun _ U o U' => ∃ v L, o = .returned v ∧ own_v2_Q1 Z a1 k_a1 x0 x1 x2 x3 x4 x5 x6 x7 h0 n0 v U'.heap L ∧ FrameEnd U o U' L ({ frames := 0, cells := 0, slots := 0, locals := 0 } : Room).cells ({ frames := 0, cells := 0, slots := 0, locals := 0 } : Room).slots) := by
  refine MetFree.of_bodySF (plainFor_of_name own_pn0) hisR ?_
  intro p e s m args below meth c s₁ Bd hml0 hP hK
  obtain ⟨rfl, hZ, hh⟩ := hP
  have hx := Bd.exec
  have hby := Bd.bytes
  have hml : c.maxLocals = 3 := hml0
  have hown : s.vm.findClass "com/example/castd/castd/mqtt/VariableByteInteger" = some m.cls := findClass_of_methodNamed Bd.named
  have hnm := (name_of_methodNamed Bd.named Bd.method).1
  have X0 : Stand p l e ({ frames := 0, cells := 0, slots := 0, locals := 0 } : Room) s m #[(.ref a1), (.int (2 : Int32))] below meth c s₁ [] 0 0 := Stand.of_body Bd
  have e0 : s₁.heap = h0 := by rw [← hh, Bd.state]; rfl
  have N0 := Fr.nil n0
  have pre0 : ∀ t, Steps p.tables e below (s₁.setTop (mkF m 0 #[.val (.ref a1), .val (.int (2 : Int32)), .unset] [])) t → Steps p.tables e below (s₁.setTop (entryFrame m #[(.ref a1), (.int (2 : Int32))] 3)) t := fun t k => castTop (own_v2_ef1 m a1) k
  obtain ⟨cl1, Ar1, qk1, Sz1, Nn1, Hs1, Gf1⟩ := id V_a1
  have hin1 : ¬ ((2 : Int32) < 0 ∨ cl1.slots.size ≤ ((2 : Int32)).toNatClampNeg) := inb_of Sz1 ⟨by decide, by decide⟩
  have hat1 : cl1.slots[((2 : Int32)).toNatClampNeg]? = some (.int x2) := Has.at Hs1 hin1 rfl
  have k2 : ∀ t, Steps p.tables e below (s₁.setTop (mkF m 13 #[.val (.ref a1), .val (.int (2 : Int32)), .val (.int (1 : Int32))] [(.int (x2 &&& (128 : Int32)))])) t → Steps p.tables e below (s₁.setTop (entryFrame m #[(.ref a1), (.int (2 : Int32))] 3)) t := by
    intro t kt
    refine pre0 t ?_
    show Steps p.tables e below (s₁.setTop (mkF m 0 #[.val (.ref a1), .val (.int (2 : Int32)), .unset] [])) _
    refine XS.iconst X0.here hx rfl (hb hby own_d1_0) ?_
    show Steps p.tables e below (s₁.setTop (mkF m 1 #[.val (.ref a1), .val (.int (2 : Int32)), .unset] [(.int (1 : Int32))])) _
    refine XS.istoreN X0.here hx rfl (hb hby own_d1_1) rfl (l' := #[.val (.ref a1), .val (.int (2 : Int32)), .val (.int (1 : Int32))]) rfl ?_
    show Steps p.tables e below (s₁.setTop (mkF m 2 #[.val (.ref a1), .val (.int (2 : Int32)), .val (.int (1 : Int32))] [])) _
    refine XS.aloadN X0.here hx rfl (hb hby own_d1_2) rfl rfl ?_
    show Steps p.tables e below (s₁.setTop (mkF m 3 #[.val (.ref a1), .val (.int (2 : Int32)), .val (.int (1 : Int32))] [(.ref a1)])) _
    refine XS.iloadN X0.here hx rfl (hb hby own_d1_3) rfl ?_
    show Steps p.tables e below (s₁.setTop (mkF m 4 #[.val (.ref a1), .val (.int (2 : Int32)), .val (.int (1 : Int32))] [(.int (2 : Int32)), (.ref a1)])) _
    refine XS.iloadN X0.here hx rfl (hb hby own_d1_4) rfl ?_
    show Steps p.tables e below (s₁.setTop (mkF m 5 #[.val (.ref a1), .val (.int (2 : Int32)), .val (.int (1 : Int32))] [(.int (1 : Int32)), (.int (2 : Int32)), (.ref a1)])) _
    refine XS.iadd X0.here hx rfl (hb hby own_d1_5) rfl ?_
    show Steps p.tables e below (s₁.setTop (mkF m 6 #[.val (.ref a1), .val (.int (2 : Int32)), .val (.int (1 : Int32))] [(.int (3 : Int32)), (.ref a1)])) _
    refine XS.iconst X0.here hx rfl (hb hby own_d1_6) ?_
    show Steps p.tables e below (s₁.setTop (mkF m 7 #[.val (.ref a1), .val (.int (2 : Int32)), .val (.int (1 : Int32))] [(.int (1 : Int32)), (.int (3 : Int32)), (.ref a1)])) _
    refine XS.isub X0.here hx rfl (hb hby own_d1_7) rfl ?_
    show Steps p.tables e below (s₁.setTop (mkF m 8 #[.val (.ref a1), .val (.int (2 : Int32)), .val (.int (1 : Int32))] [(.int (2 : Int32)), (.ref a1)])) _
    refine X0.baloadBytes hx (j := (2 : Int32)) (v := (.int x2)) (by rw [e0]; exact Ar1.1) (State.isArrayOf_alike hZ.alike Ar1.2.1) Ar1.2.2 hin1 hat1 (g := (mkF m 8 #[.val (.ref a1), .val (.int (2 : Int32)), .val (.int (1 : Int32))] [(.int (2 : Int32)), (.ref a1)])) rfl rfl (hb hby own_d1_8) _ ?_
    show Steps p.tables e below (s₁.setTop (mkF m 9 #[.val (.ref a1), .val (.int (2 : Int32)), .val (.int (1 : Int32))] [(.int x2)])) _
    refine XS.sipush X0.here hx rfl (hb hby own_d1_9) ?_
    show Steps p.tables e below (s₁.setTop (mkF m 12 #[.val (.ref a1), .val (.int (2 : Int32)), .val (.int (1 : Int32))] [(.int (128 : Int32)), (.int x2)])) _
    refine XS.iand X0.here hx rfl (hb hby own_d1_12) rfl ?_
    exact kt
  by_cases hc1 : (x2 &&& (128 : Int32)) = (0 : Int32)
  ·
    obtain ⟨fs, hr, hrun, hended, hW, hsame⟩ := X0.leave (v := some (.int (1 : Int32))) (fun h => by rw [Bd.returns] at h; cases h)
    refine ⟨_, _, k2 _ ?_, hrun, hended, _, _, rfl, ?_, ⟨_, rfl⟩, hW, hsame.mono (by decide) (by decide)⟩
    · show Steps p.tables e below (s₁.setTop (mkF m 13 #[.val (.ref a1), .val (.int (2 : Int32)), .val (.int (1 : Int32))] [(.int (x2 &&& (128 : Int32)))])) _
      refine XS.ifYes X0.here hx rfl (pc0 := 13) (pc' := 22) rfl (hb hby own_d1_13) rfl ((if0 _ _).trans (teq hc1).1) (by decide) (by decide) ?_
      show Steps p.tables e below (s₁.setTop (mkF m 22 #[.val (.ref a1), .val (.int (2 : Int32)), .val (.int (1 : Int32))] [])) _
      refine XS.iloadN X0.here hx rfl (hb hby own_d1_22) rfl ?_
      show Steps p.tables e below (s₁.setTop (mkF m 23 #[.val (.ref a1), .val (.int (2 : Int32)), .val (.int (1 : Int32))] [(.int (1 : Int32))])) _
      exact retI X0 hx Bd.returns (hb hby own_d1_23) hr
    · show own_v2_Q1 Z a1 k_a1 x0 x1 x2 x3 x4 x5 x6 x7 h0 n0 _ s₁.heap _
      rw [e0]
      exact ⟨(by rw [own_v2_f1, if_pos hc1]), N0, rfl⟩
  ·
    obtain ⟨cl3, Ar3, qk3, Sz3, Nn3, Hs3, Gf3⟩ := id V_a1
    have hin3 : ¬ ((3 : Int32) < 0 ∨ cl3.slots.size ≤ ((3 : Int32)).toNatClampNeg) := inb_of Sz3 ⟨by decide, by decide⟩
    have hat3 : cl3.slots[((3 : Int32)).toNatClampNeg]? = some (.int x3) := Has.at Hs3 hin3 rfl
    have k4 : ∀ t, Steps p.tables e below (s₁.setTop (mkF m 13 #[.val (.ref a1), .val (.int (2 : Int32)), .val (.int (2 : Int32))] [(.int (x3 &&& (128 : Int32)))])) t → Steps p.tables e below (s₁.setTop (entryFrame m #[(.ref a1), (.int (2 : Int32))] 3)) t := by
      intro t kt
      refine k2 t ?_
      show Steps p.tables e below (s₁.setTop (mkF m 13 #[.val (.ref a1), .val (.int (2 : Int32)), .val (.int (1 : Int32))] [(.int (x2 &&& (128 : Int32)))])) _
      refine XS.ifNo X0.here hx rfl (hb hby own_d1_13) rfl ((if0 _ _).trans (feq hc1).1) ?_
      show Steps p.tables e below (s₁.setTop (mkF m 16 #[.val (.ref a1), .val (.int (2 : Int32)), .val (.int (1 : Int32))] [])) _
      refine XS.iinc X0.here hx rfl (hb hby own_d1_16) rfl (l' := #[.val (.ref a1), .val (.int (2 : Int32)), .val (.int (2 : Int32))]) rfl ?_
      show Steps p.tables e below (s₁.setTop (mkF m 19 #[.val (.ref a1), .val (.int (2 : Int32)), .val (.int (2 : Int32))] [])) _
      refine XS.goto X0.here hx rfl (pc0 := 19) (pc' := 2) rfl (hb hby own_d1_19) (by decide) (by decide) ?_
      show Steps p.tables e below (s₁.setTop (mkF m 2 #[.val (.ref a1), .val (.int (2 : Int32)), .val (.int (2 : Int32))] [])) _
      refine XS.aloadN X0.here hx rfl (hb hby own_d1_2) rfl rfl ?_
      show Steps p.tables e below (s₁.setTop (mkF m 3 #[.val (.ref a1), .val (.int (2 : Int32)), .val (.int (2 : Int32))] [(.ref a1)])) _
      refine XS.iloadN X0.here hx rfl (hb hby own_d1_3) rfl ?_
      show Steps p.tables e below (s₁.setTop (mkF m 4 #[.val (.ref a1), .val (.int (2 : Int32)), .val (.int (2 : Int32))] [(.int (2 : Int32)), (.ref a1)])) _
      refine XS.iloadN X0.here hx rfl (hb hby own_d1_4) rfl ?_
      show Steps p.tables e below (s₁.setTop (mkF m 5 #[.val (.ref a1), .val (.int (2 : Int32)), .val (.int (2 : Int32))] [(.int (2 : Int32)), (.int (2 : Int32)), (.ref a1)])) _
      refine XS.iadd X0.here hx rfl (hb hby own_d1_5) rfl ?_
      show Steps p.tables e below (s₁.setTop (mkF m 6 #[.val (.ref a1), .val (.int (2 : Int32)), .val (.int (2 : Int32))] [(.int (4 : Int32)), (.ref a1)])) _
      refine XS.iconst X0.here hx rfl (hb hby own_d1_6) ?_
      show Steps p.tables e below (s₁.setTop (mkF m 7 #[.val (.ref a1), .val (.int (2 : Int32)), .val (.int (2 : Int32))] [(.int (1 : Int32)), (.int (4 : Int32)), (.ref a1)])) _
      refine XS.isub X0.here hx rfl (hb hby own_d1_7) rfl ?_
      show Steps p.tables e below (s₁.setTop (mkF m 8 #[.val (.ref a1), .val (.int (2 : Int32)), .val (.int (2 : Int32))] [(.int (3 : Int32)), (.ref a1)])) _
      refine X0.baloadBytes hx (j := (3 : Int32)) (v := (.int x3)) (by rw [e0]; exact Ar3.1) (State.isArrayOf_alike hZ.alike Ar3.2.1) Ar3.2.2 hin3 hat3 (g := (mkF m 8 #[.val (.ref a1), .val (.int (2 : Int32)), .val (.int (2 : Int32))] [(.int (3 : Int32)), (.ref a1)])) rfl rfl (hb hby own_d1_8) _ ?_
      show Steps p.tables e below (s₁.setTop (mkF m 9 #[.val (.ref a1), .val (.int (2 : Int32)), .val (.int (2 : Int32))] [(.int x3)])) _
      refine XS.sipush X0.here hx rfl (hb hby own_d1_9) ?_
      show Steps p.tables e below (s₁.setTop (mkF m 12 #[.val (.ref a1), .val (.int (2 : Int32)), .val (.int (2 : Int32))] [(.int (128 : Int32)), (.int x3)])) _
      refine XS.iand X0.here hx rfl (hb hby own_d1_12) rfl ?_
      exact kt
    by_cases hc2 : (x3 &&& (128 : Int32)) = (0 : Int32)
    ·
      obtain ⟨fs, hr, hrun, hended, hW, hsame⟩ := X0.leave (v := some (.int (2 : Int32))) (fun h => by rw [Bd.returns] at h; cases h)
      refine ⟨_, _, k4 _ ?_, hrun, hended, _, _, rfl, ?_, ⟨_, rfl⟩, hW, hsame.mono (by decide) (by decide)⟩
      · show Steps p.tables e below (s₁.setTop (mkF m 13 #[.val (.ref a1), .val (.int (2 : Int32)), .val (.int (2 : Int32))] [(.int (x3 &&& (128 : Int32)))])) _
        refine XS.ifYes X0.here hx rfl (pc0 := 13) (pc' := 22) rfl (hb hby own_d1_13) rfl ((if0 _ _).trans (teq hc2).1) (by decide) (by decide) ?_
        show Steps p.tables e below (s₁.setTop (mkF m 22 #[.val (.ref a1), .val (.int (2 : Int32)), .val (.int (2 : Int32))] [])) _
        refine XS.iloadN X0.here hx rfl (hb hby own_d1_22) rfl ?_
        show Steps p.tables e below (s₁.setTop (mkF m 23 #[.val (.ref a1), .val (.int (2 : Int32)), .val (.int (2 : Int32))] [(.int (2 : Int32))])) _
        exact retI X0 hx Bd.returns (hb hby own_d1_23) hr
      · show own_v2_Q1 Z a1 k_a1 x0 x1 x2 x3 x4 x5 x6 x7 h0 n0 _ s₁.heap _
        rw [e0]
        exact ⟨(by rw [own_v2_f1, if_neg hc1, if_pos hc2]), N0, rfl⟩
    ·
      obtain ⟨cl5, Ar5, qk5, Sz5, Nn5, Hs5, Gf5⟩ := id V_a1
      have hin5 : ¬ ((4 : Int32) < 0 ∨ cl5.slots.size ≤ ((4 : Int32)).toNatClampNeg) := inb_of Sz5 ⟨by decide, by decide⟩
      have hat5 : cl5.slots[((4 : Int32)).toNatClampNeg]? = some (.int x4) := Has.at Hs5 hin5 rfl
      have k6 : ∀ t, Steps p.tables e below (s₁.setTop (mkF m 13 #[.val (.ref a1), .val (.int (2 : Int32)), .val (.int (3 : Int32))] [(.int (x4 &&& (128 : Int32)))])) t → Steps p.tables e below (s₁.setTop (entryFrame m #[(.ref a1), (.int (2 : Int32))] 3)) t := by
        intro t kt
        refine k4 t ?_
        show Steps p.tables e below (s₁.setTop (mkF m 13 #[.val (.ref a1), .val (.int (2 : Int32)), .val (.int (2 : Int32))] [(.int (x3 &&& (128 : Int32)))])) _
        refine XS.ifNo X0.here hx rfl (hb hby own_d1_13) rfl ((if0 _ _).trans (feq hc2).1) ?_
        show Steps p.tables e below (s₁.setTop (mkF m 16 #[.val (.ref a1), .val (.int (2 : Int32)), .val (.int (2 : Int32))] [])) _
        refine XS.iinc X0.here hx rfl (hb hby own_d1_16) rfl (l' := #[.val (.ref a1), .val (.int (2 : Int32)), .val (.int (3 : Int32))]) rfl ?_
        show Steps p.tables e below (s₁.setTop (mkF m 19 #[.val (.ref a1), .val (.int (2 : Int32)), .val (.int (3 : Int32))] [])) _
        refine XS.goto X0.here hx rfl (pc0 := 19) (pc' := 2) rfl (hb hby own_d1_19) (by decide) (by decide) ?_
        show Steps p.tables e below (s₁.setTop (mkF m 2 #[.val (.ref a1), .val (.int (2 : Int32)), .val (.int (3 : Int32))] [])) _
        refine XS.aloadN X0.here hx rfl (hb hby own_d1_2) rfl rfl ?_
        show Steps p.tables e below (s₁.setTop (mkF m 3 #[.val (.ref a1), .val (.int (2 : Int32)), .val (.int (3 : Int32))] [(.ref a1)])) _
        refine XS.iloadN X0.here hx rfl (hb hby own_d1_3) rfl ?_
        show Steps p.tables e below (s₁.setTop (mkF m 4 #[.val (.ref a1), .val (.int (2 : Int32)), .val (.int (3 : Int32))] [(.int (2 : Int32)), (.ref a1)])) _
        refine XS.iloadN X0.here hx rfl (hb hby own_d1_4) rfl ?_
        show Steps p.tables e below (s₁.setTop (mkF m 5 #[.val (.ref a1), .val (.int (2 : Int32)), .val (.int (3 : Int32))] [(.int (3 : Int32)), (.int (2 : Int32)), (.ref a1)])) _
        refine XS.iadd X0.here hx rfl (hb hby own_d1_5) rfl ?_
        show Steps p.tables e below (s₁.setTop (mkF m 6 #[.val (.ref a1), .val (.int (2 : Int32)), .val (.int (3 : Int32))] [(.int (5 : Int32)), (.ref a1)])) _
        refine XS.iconst X0.here hx rfl (hb hby own_d1_6) ?_
        show Steps p.tables e below (s₁.setTop (mkF m 7 #[.val (.ref a1), .val (.int (2 : Int32)), .val (.int (3 : Int32))] [(.int (1 : Int32)), (.int (5 : Int32)), (.ref a1)])) _
        refine XS.isub X0.here hx rfl (hb hby own_d1_7) rfl ?_
        show Steps p.tables e below (s₁.setTop (mkF m 8 #[.val (.ref a1), .val (.int (2 : Int32)), .val (.int (3 : Int32))] [(.int (4 : Int32)), (.ref a1)])) _
        refine X0.baloadBytes hx (j := (4 : Int32)) (v := (.int x4)) (by rw [e0]; exact Ar5.1) (State.isArrayOf_alike hZ.alike Ar5.2.1) Ar5.2.2 hin5 hat5 (g := (mkF m 8 #[.val (.ref a1), .val (.int (2 : Int32)), .val (.int (3 : Int32))] [(.int (4 : Int32)), (.ref a1)])) rfl rfl (hb hby own_d1_8) _ ?_
        show Steps p.tables e below (s₁.setTop (mkF m 9 #[.val (.ref a1), .val (.int (2 : Int32)), .val (.int (3 : Int32))] [(.int x4)])) _
        refine XS.sipush X0.here hx rfl (hb hby own_d1_9) ?_
        show Steps p.tables e below (s₁.setTop (mkF m 12 #[.val (.ref a1), .val (.int (2 : Int32)), .val (.int (3 : Int32))] [(.int (128 : Int32)), (.int x4)])) _
        refine XS.iand X0.here hx rfl (hb hby own_d1_12) rfl ?_
        exact kt
      by_cases hc3 : (x4 &&& (128 : Int32)) = (0 : Int32)
      ·
        obtain ⟨fs, hr, hrun, hended, hW, hsame⟩ := X0.leave (v := some (.int (3 : Int32))) (fun h => by rw [Bd.returns] at h; cases h)
        refine ⟨_, _, k6 _ ?_, hrun, hended, _, _, rfl, ?_, ⟨_, rfl⟩, hW, hsame.mono (by decide) (by decide)⟩
        · show Steps p.tables e below (s₁.setTop (mkF m 13 #[.val (.ref a1), .val (.int (2 : Int32)), .val (.int (3 : Int32))] [(.int (x4 &&& (128 : Int32)))])) _
          refine XS.ifYes X0.here hx rfl (pc0 := 13) (pc' := 22) rfl (hb hby own_d1_13) rfl ((if0 _ _).trans (teq hc3).1) (by decide) (by decide) ?_
          show Steps p.tables e below (s₁.setTop (mkF m 22 #[.val (.ref a1), .val (.int (2 : Int32)), .val (.int (3 : Int32))] [])) _
          refine XS.iloadN X0.here hx rfl (hb hby own_d1_22) rfl ?_
          show Steps p.tables e below (s₁.setTop (mkF m 23 #[.val (.ref a1), .val (.int (2 : Int32)), .val (.int (3 : Int32))] [(.int (3 : Int32))])) _
          exact retI X0 hx Bd.returns (hb hby own_d1_23) hr
        · show own_v2_Q1 Z a1 k_a1 x0 x1 x2 x3 x4 x5 x6 x7 h0 n0 _ s₁.heap _
          rw [e0]
          exact ⟨(by rw [own_v2_f1, if_neg hc1, if_neg hc2, if_pos hc3]), N0, rfl⟩
      ·
        obtain ⟨cl7, Ar7, qk7, Sz7, Nn7, Hs7, Gf7⟩ := id V_a1
        have hin7 : ¬ ((5 : Int32) < 0 ∨ cl7.slots.size ≤ ((5 : Int32)).toNatClampNeg) := inb_of Sz7 ⟨by decide, by decide⟩
        have hat7 : cl7.slots[((5 : Int32)).toNatClampNeg]? = some (.int x5) := Has.at Hs7 hin7 rfl
        obtain ⟨fs, hr, hrun, hended, hW, hsame⟩ := X0.leave (v := some (.int (4 : Int32))) (fun h => by rw [Bd.returns] at h; cases h)
        refine ⟨_, _, k6 _ ?_, hrun, hended, _, _, rfl, ?_, ⟨_, rfl⟩, hW, hsame.mono (by decide) (by decide)⟩
        · show Steps p.tables e below (s₁.setTop (mkF m 13 #[.val (.ref a1), .val (.int (2 : Int32)), .val (.int (3 : Int32))] [(.int (x4 &&& (128 : Int32)))])) _
          refine XS.ifNo X0.here hx rfl (hb hby own_d1_13) rfl ((if0 _ _).trans (feq hc3).1) ?_
          show Steps p.tables e below (s₁.setTop (mkF m 16 #[.val (.ref a1), .val (.int (2 : Int32)), .val (.int (3 : Int32))] [])) _
          refine XS.iinc X0.here hx rfl (hb hby own_d1_16) rfl (l' := #[.val (.ref a1), .val (.int (2 : Int32)), .val (.int (4 : Int32))]) rfl ?_
          show Steps p.tables e below (s₁.setTop (mkF m 19 #[.val (.ref a1), .val (.int (2 : Int32)), .val (.int (4 : Int32))] [])) _
          refine XS.goto X0.here hx rfl (pc0 := 19) (pc' := 2) rfl (hb hby own_d1_19) (by decide) (by decide) ?_
          show Steps p.tables e below (s₁.setTop (mkF m 2 #[.val (.ref a1), .val (.int (2 : Int32)), .val (.int (4 : Int32))] [])) _
          refine XS.aloadN X0.here hx rfl (hb hby own_d1_2) rfl rfl ?_
          show Steps p.tables e below (s₁.setTop (mkF m 3 #[.val (.ref a1), .val (.int (2 : Int32)), .val (.int (4 : Int32))] [(.ref a1)])) _
          refine XS.iloadN X0.here hx rfl (hb hby own_d1_3) rfl ?_
          show Steps p.tables e below (s₁.setTop (mkF m 4 #[.val (.ref a1), .val (.int (2 : Int32)), .val (.int (4 : Int32))] [(.int (2 : Int32)), (.ref a1)])) _
          refine XS.iloadN X0.here hx rfl (hb hby own_d1_4) rfl ?_
          show Steps p.tables e below (s₁.setTop (mkF m 5 #[.val (.ref a1), .val (.int (2 : Int32)), .val (.int (4 : Int32))] [(.int (4 : Int32)), (.int (2 : Int32)), (.ref a1)])) _
          refine XS.iadd X0.here hx rfl (hb hby own_d1_5) rfl ?_
          show Steps p.tables e below (s₁.setTop (mkF m 6 #[.val (.ref a1), .val (.int (2 : Int32)), .val (.int (4 : Int32))] [(.int (6 : Int32)), (.ref a1)])) _
          refine XS.iconst X0.here hx rfl (hb hby own_d1_6) ?_
          show Steps p.tables e below (s₁.setTop (mkF m 7 #[.val (.ref a1), .val (.int (2 : Int32)), .val (.int (4 : Int32))] [(.int (1 : Int32)), (.int (6 : Int32)), (.ref a1)])) _
          refine XS.isub X0.here hx rfl (hb hby own_d1_7) rfl ?_
          show Steps p.tables e below (s₁.setTop (mkF m 8 #[.val (.ref a1), .val (.int (2 : Int32)), .val (.int (4 : Int32))] [(.int (5 : Int32)), (.ref a1)])) _
          refine X0.baloadBytes hx (j := (5 : Int32)) (v := (.int x5)) (by rw [e0]; exact Ar7.1) (State.isArrayOf_alike hZ.alike Ar7.2.1) Ar7.2.2 hin7 hat7 (g := (mkF m 8 #[.val (.ref a1), .val (.int (2 : Int32)), .val (.int (4 : Int32))] [(.int (5 : Int32)), (.ref a1)])) rfl rfl (hb hby own_d1_8) _ ?_
          show Steps p.tables e below (s₁.setTop (mkF m 9 #[.val (.ref a1), .val (.int (2 : Int32)), .val (.int (4 : Int32))] [(.int x5)])) _
          refine XS.sipush X0.here hx rfl (hb hby own_d1_9) ?_
          show Steps p.tables e below (s₁.setTop (mkF m 12 #[.val (.ref a1), .val (.int (2 : Int32)), .val (.int (4 : Int32))] [(.int (128 : Int32)), (.int x5)])) _
          refine XS.iand X0.here hx rfl (hb hby own_d1_12) rfl ?_
          show Steps p.tables e below (s₁.setTop (mkF m 13 #[.val (.ref a1), .val (.int (2 : Int32)), .val (.int (4 : Int32))] [(.int (x5 &&& (128 : Int32)))])) _
          refine XS.ifYes X0.here hx rfl (pc0 := 13) (pc' := 22) rfl (hb hby own_d1_13) rfl ((if0 _ _).trans (teq (hz hc1 hc2 hc3)).1) (by decide) (by decide) ?_
          show Steps p.tables e below (s₁.setTop (mkF m 22 #[.val (.ref a1), .val (.int (2 : Int32)), .val (.int (4 : Int32))] [])) _
          refine XS.iloadN X0.here hx rfl (hb hby own_d1_22) rfl ?_
          show Steps p.tables e below (s₁.setTop (mkF m 23 #[.val (.ref a1), .val (.int (2 : Int32)), .val (.int (4 : Int32))] [(.int (4 : Int32))])) _
          exact retI X0 hx Bd.returns (hb hby own_d1_23) hr
        · show own_v2_Q1 Z a1 k_a1 x0 x1 x2 x3 x4 x5 x6 x7 h0 n0 _ s₁.heap _
          rw [e0]
          exact ⟨(by rw [own_v2_f1, if_neg hc1, if_neg hc2, if_neg hc3]), N0, rfl⟩
-- body 1, variant 3
theorem own_v3_ef1 (m : MethodId) (x0 : Addr) : entryFrame m #[(.ref x0), (.int (3 : Int32))] 3 = mkF m 0 #[.val (.ref x0), .val (.int (3 : Int32)), .unset] [] := by first | (simp [entryFrame, mkF, argsToLocals, Value.category]; done) | rfl
def own_v3_f1 (x3 : Int32) (x4 : Int32) (x5 : Int32) : Int32 := if (x3 &&& (128 : Int32)) = (0 : Int32) then (1 : Int32)
    else if (x4 &&& (128 : Int32)) = (0 : Int32) then (2 : Int32)
      else if (x5 &&& (128 : Int32)) = (0 : Int32) then (3 : Int32)
        else (4 : Int32)
def own_v3_Q1 (Z : State) (a1 : Addr) (k_a1 : ClassId) (x0 : Int32) (x1 : Int32) (x2 : Int32) (x3 : Int32) (x4 : Int32) (x5 : Int32) (x6 : Int32) (x7 : Int32) (h0 : Heap) (n0 : Nat) (v : Option Value) (h : Heap) (L : List Loc) : Prop := v = some (.int (own_v3_f1 x3 x4 x5)) ∧ Fr n0 L ∧ h = h0
set_option maxRecDepth 65536 in
set_option maxHeartbeats 40000000 in
theorem own_v3_rm1 (l : Launch) (Z : State) (a0 : Array Value) (hw : ∀ d ∈ tables_1, d.before a0 Z = true) (ws : List Jvm.Cond) (a1 : Addr) (k_a1 : ClassId) (x0 : Int32) (x1 : Int32) (x2 : Int32) (x3 : Int32) (x4 : Int32) (x5 : Int32) (x6 : Int32) (x7 : Int32) (h0 : Heap) (n0 : Nat) (Z0 : n0 ≤ h0.size) (V_a1 : Arv Z h0 a1 k_a1 .byte (8 : Int32) [(.int x0), (.int x1), (.int x2), (.int x3), (.int x4), (.int x5), (.int x6), (.int x7)] (.int (0 : Int32))) (hz : ¬ (x3 &&& (128 : Int32)) = (0 : Int32) → ¬ (x4 &&& (128 : Int32)) = (0 : Int32) → ¬ (x5 &&& (128 : Int32)) = (0 : Int32) → (x6 &&& (128 : Int32)) = (0 : Int32)) :
    MetFree l (⟨"com/example/castd/castd/mqtt/VariableByteInteger", "length", "([BI)I"⟩ : MethodName) (head1 (Jvm.Cond.code (⟨"com/example/castd/castd/mqtt/VariableByteInteger", "length", "([BI)I"⟩ : MethodName) prog_95_method_3_code 3 (some .int) :: ws) ({ frames := 0, cells := 0, slots := 0, locals := 0 } : Room)) (fun a U => a = #[(.ref a1), (.int (3 : Int32))] ∧ Z.Warmed39 U.vm ∧ U.heap = h0) (fun _ _ _ _ _ => True) (fun _ U o U' => ∃ v L, o = .returned v ∧ own_v3_Q1 Z a1 k_a1 x0 x1 x2 x3 x4 x5 x6 x7 h0 n0 v U'.heap L ∧ FrameEnd U o U' L ({ frames := 0, cells := 0, slots := 0, locals := 0 } : Room).cells ({ frames := 0, cells := 0, slots := 0, locals := 0 } : Room).slots) := by
  refine MetFree.of_bodySF (plainFor_of_name own_pn0) hisR ?_
  intro p e s m args below meth c s₁ Bd hml0 hP hK
  obtain ⟨rfl, hZ, hh⟩ := hP
  have hx := Bd.exec
  have hby := Bd.bytes
  have hml : c.maxLocals = 3 := hml0
  have hown : s.vm.findClass "com/example/castd/castd/mqtt/VariableByteInteger" = some m.cls := findClass_of_methodNamed Bd.named
  have hnm := (name_of_methodNamed Bd.named Bd.method).1
  have X0 : Stand p l e ({ frames := 0, cells := 0, slots := 0, locals := 0 } : Room) s m #[(.ref a1), (.int (3 : Int32))] below meth c s₁ [] 0 0 := Stand.of_body Bd
  have e0 : s₁.heap = h0 := by rw [← hh, Bd.state]; rfl
  have N0 := Fr.nil n0
  have pre0 : ∀ t, Steps p.tables e below (s₁.setTop (mkF m 0 #[.val (.ref a1), .val (.int (3 : Int32)), .unset] [])) t → Steps p.tables e below (s₁.setTop (entryFrame m #[(.ref a1), (.int (3 : Int32))] 3)) t := fun t k => castTop (own_v3_ef1 m a1) k
  obtain ⟨cl1, Ar1, qk1, Sz1, Nn1, Hs1, Gf1⟩ := id V_a1
  have hin1 : ¬ ((3 : Int32) < 0 ∨ cl1.slots.size ≤ ((3 : Int32)).toNatClampNeg) := inb_of Sz1 ⟨by decide, by decide⟩
  have hat1 : cl1.slots[((3 : Int32)).toNatClampNeg]? = some (.int x3) := Has.at Hs1 hin1 rfl
  have k2 : ∀ t, Steps p.tables e below (s₁.setTop (mkF m 13 #[.val (.ref a1), .val (.int (3 : Int32)), .val (.int (1 : Int32))] [(.int (x3 &&& (128 : Int32)))])) t → Steps p.tables e below (s₁.setTop (entryFrame m #[(.ref a1), (.int (3 : Int32))] 3)) t := by
    intro t kt
    refine pre0 t ?_
    show Steps p.tables e below (s₁.setTop (mkF m 0 #[.val (.ref a1), .val (.int (3 : Int32)), .unset] [])) _
    refine XS.iconst X0.here hx rfl (hb hby own_d1_0) ?_
    show Steps p.tables e below (s₁.setTop (mkF m 1 #[.val (.ref a1), .val (.int (3 : Int32)), .unset] [(.int (1 : Int32))])) _
    refine XS.istoreN X0.here hx rfl (hb hby own_d1_1) rfl (l' := #[.val (.ref a1), .val (.int (3 : Int32)), .val (.int (1 : Int32))]) rfl ?_
    show Steps p.tables e below (s₁.setTop (mkF m 2 #[.val (.ref a1), .val (.int (3 : Int32)), .val (.int (1 : Int32))] [])) _
    refine XS.aloadN X0.here hx rfl (hb hby own_d1_2) rfl rfl ?_
    show Steps p.tables e below (s₁.setTop (mkF m 3 #[.val (.ref a1), .val (.int (3 : Int32)), .val (.int (1 : Int32))] [(.ref a1)])) _
    refine XS.iloadN X0.here hx rfl (hb hby own_d1_3) rfl ?_
    show Steps p.tables e below (s₁.setTop (mkF m 4 #[.val (.ref a1), .val (.int (3 : Int32)), .val (.int (1 : Int32))] [(.int (3 : Int32)), (.ref a1)])) _
    refine XS.iloadN X0.here hx rfl (hb hby own_d1_4) rfl ?_
    show Steps p.tables e below (s₁.setTop (mkF m 5 #[.val (.ref a1), .val (.int (3 : Int32)), .val (.int (1 : Int32))] [(.int (1 : Int32)), (.int (3 : Int32)), (.ref a1)])) _
    refine XS.iadd X0.here hx rfl (hb hby own_d1_5) rfl ?_
    show Steps p.tables e below (s₁.setTop (mkF m 6 #[.val (.ref a1), .val (.int (3 : Int32)), .val (.int (1 : Int32))] [(.int (4 : Int32)), (.ref a1)])) _
    refine XS.iconst X0.here hx rfl (hb hby own_d1_6) ?_
    show Steps p.tables e below (s₁.setTop (mkF m 7 #[.val (.ref a1), .val (.int (3 : Int32)), .val (.int (1 : Int32))] [(.int (1 : Int32)), (.int (4 : Int32)), (.ref a1)])) _
    refine XS.isub X0.here hx rfl (hb hby own_d1_7) rfl ?_
    show Steps p.tables e below (s₁.setTop (mkF m 8 #[.val (.ref a1), .val (.int (3 : Int32)), .val (.int (1 : Int32))] [(.int (3 : Int32)), (.ref a1)])) _
    refine X0.baloadBytes hx (j := (3 : Int32)) (v := (.int x3)) (by rw [e0]; exact Ar1.1) (State.isArrayOf_alike hZ.alike Ar1.2.1) Ar1.2.2 hin1 hat1 (g := (mkF m 8 #[.val (.ref a1), .val (.int (3 : Int32)), .val (.int (1 : Int32))] [(.int (3 : Int32)), (.ref a1)])) rfl rfl (hb hby own_d1_8) _ ?_
    show Steps p.tables e below (s₁.setTop (mkF m 9 #[.val (.ref a1), .val (.int (3 : Int32)), .val (.int (1 : Int32))] [(.int x3)])) _
    refine XS.sipush X0.here hx rfl (hb hby own_d1_9) ?_
    show Steps p.tables e below (s₁.setTop (mkF m 12 #[.val (.ref a1), .val (.int (3 : Int32)), .val (.int (1 : Int32))] [(.int (128 : Int32)), (.int x3)])) _
    refine XS.iand X0.here hx rfl (hb hby own_d1_12) rfl ?_
    exact kt
  by_cases hc1 : (x3 &&& (128 : Int32)) = (0 : Int32)
  ·
    obtain ⟨fs, hr, hrun, hended, hW, hsame⟩ := X0.leave (v := some (.int (1 : Int32))) (fun h => by rw [Bd.returns] at h; cases h)
    refine ⟨_, _, k2 _ ?_, hrun, hended, _, _, rfl, ?_, ⟨_, rfl⟩, hW, hsame.mono (by decide) (by decide)⟩
    · show Steps p.tables e below (s₁.setTop (mkF m 13 #[.val (.ref a1), .val (.int (3 : Int32)), .val (.int (1 : Int32))] [(.int (x3 &&& (128 : Int32)))])) _
      refine XS.ifYes X0.here hx rfl (pc0 := 13) (pc' := 22) rfl (hb hby own_d1_13) rfl ((if0 _ _).trans (teq hc1).1) (by decide) (by decide) ?_
      show Steps p.tables e below (s₁.setTop (mkF m 22 #[.val (.ref a1), .val (.int (3 : Int32)), .val (.int (1 : Int32))] [])) _
      refine XS.iloadN X0.here hx rfl (hb hby own_d1_22) rfl ?_
      show Steps p.tables e below (s₁.setTop (mkF m 23 #[.val (.ref a1), .val (.int (3 : Int32)), .val (.int (1 : Int32))] [(.int (1 : Int32))])) _
      exact retI X0 hx Bd.returns (hb hby own_d1_23) hr
    · show own_v3_Q1 Z a1 k_a1 x0 x1 x2 x3 x4 x5 x6 x7 h0 n0 _ s₁.heap _
      rw [e0]
      exact ⟨(by rw [own_v3_f1, if_pos hc1]), N0, rfl⟩
  ·
    obtain ⟨cl3, Ar3, qk3, Sz3, Nn3, Hs3, Gf3⟩ := id V_a1
    have hin3 : ¬ ((4 : Int32) < 0 ∨ cl3.slots.size ≤ ((4 : Int32)).toNatClampNeg) := inb_of Sz3 ⟨by decide, by decide⟩
    have hat3 : cl3.slots[((4 : Int32)).toNatClampNeg]? = some (.int x4) := Has.at Hs3 hin3 rfl
    have k4 : ∀ t, Steps p.tables e below (s₁.setTop (mkF m 13 #[.val (.ref a1), .val (.int (3 : Int32)), .val (.int (2 : Int32))] [(.int (x4 &&& (128 : Int32)))])) t → Steps p.tables e below (s₁.setTop (entryFrame m #[(.ref a1), (.int (3 : Int32))] 3)) t := by
      intro t kt
      refine k2 t ?_
      show Steps p.tables e below (s₁.setTop (mkF m 13 #[.val (.ref a1), .val (.int (3 : Int32)), .val (.int (1 : Int32))] [(.int (x3 &&& (128 : Int32)))])) _
      refine XS.ifNo X0.here hx rfl (hb hby own_d1_13) rfl ((if0 _ _).trans (feq hc1).1) ?_
      show Steps p.tables e below (s₁.setTop (mkF m 16 #[.val (.ref a1), .val (.int (3 : Int32)), .val (.int (1 : Int32))] [])) _
      refine XS.iinc X0.here hx rfl (hb hby own_d1_16) rfl (l' := #[.val (.ref a1), .val (.int (3 : Int32)), .val (.int (2 : Int32))]) rfl ?_
      show Steps p.tables e below (s₁.setTop (mkF m 19 #[.val (.ref a1), .val (.int (3 : Int32)), .val (.int (2 : Int32))] [])) _
      refine XS.goto X0.here hx rfl (pc0 := 19) (pc' := 2) rfl (hb hby own_d1_19) (by decide) (by decide) ?_
      show Steps p.tables e below (s₁.setTop (mkF m 2 #[.val (.ref a1), .val (.int (3 : Int32)), .val (.int (2 : Int32))] [])) _
      refine XS.aloadN X0.here hx rfl (hb hby own_d1_2) rfl rfl ?_
      show Steps p.tables e below (s₁.setTop (mkF m 3 #[.val (.ref a1), .val (.int (3 : Int32)), .val (.int (2 : Int32))] [(.ref a1)])) _
      refine XS.iloadN X0.here hx rfl (hb hby own_d1_3) rfl ?_
      show Steps p.tables e below (s₁.setTop (mkF m 4 #[.val (.ref a1), .val (.int (3 : Int32)), .val (.int (2 : Int32))] [(.int (3 : Int32)), (.ref a1)])) _
      refine XS.iloadN X0.here hx rfl (hb hby own_d1_4) rfl ?_
      show Steps p.tables e below (s₁.setTop (mkF m 5 #[.val (.ref a1), .val (.int (3 : Int32)), .val (.int (2 : Int32))] [(.int (2 : Int32)), (.int (3 : Int32)), (.ref a1)])) _
      refine XS.iadd X0.here hx rfl (hb hby own_d1_5) rfl ?_
      show Steps p.tables e below (s₁.setTop (mkF m 6 #[.val (.ref a1), .val (.int (3 : Int32)), .val (.int (2 : Int32))] [(.int (5 : Int32)), (.ref a1)])) _
      refine XS.iconst X0.here hx rfl (hb hby own_d1_6) ?_
      show Steps p.tables e below (s₁.setTop (mkF m 7 #[.val (.ref a1), .val (.int (3 : Int32)), .val (.int (2 : Int32))] [(.int (1 : Int32)), (.int (5 : Int32)), (.ref a1)])) _
      refine XS.isub X0.here hx rfl (hb hby own_d1_7) rfl ?_
      show Steps p.tables e below (s₁.setTop (mkF m 8 #[.val (.ref a1), .val (.int (3 : Int32)), .val (.int (2 : Int32))] [(.int (4 : Int32)), (.ref a1)])) _
      refine X0.baloadBytes hx (j := (4 : Int32)) (v := (.int x4)) (by rw [e0]; exact Ar3.1) (State.isArrayOf_alike hZ.alike Ar3.2.1) Ar3.2.2 hin3 hat3 (g := (mkF m 8 #[.val (.ref a1), .val (.int (3 : Int32)), .val (.int (2 : Int32))] [(.int (4 : Int32)), (.ref a1)])) rfl rfl (hb hby own_d1_8) _ ?_
      show Steps p.tables e below (s₁.setTop (mkF m 9 #[.val (.ref a1), .val (.int (3 : Int32)), .val (.int (2 : Int32))] [(.int x4)])) _
      refine XS.sipush X0.here hx rfl (hb hby own_d1_9) ?_
      show Steps p.tables e below (s₁.setTop (mkF m 12 #[.val (.ref a1), .val (.int (3 : Int32)), .val (.int (2 : Int32))] [(.int (128 : Int32)), (.int x4)])) _
      refine XS.iand X0.here hx rfl (hb hby own_d1_12) rfl ?_
      exact kt
    by_cases hc2 : (x4 &&& (128 : Int32)) = (0 : Int32)
    ·
      obtain ⟨fs, hr, hrun, hended, hW, hsame⟩ := X0.leave (v := some (.int (2 : Int32))) (fun h => by rw [Bd.returns] at h; cases h)
      refine ⟨_, _, k4 _ ?_, hrun, hended, _, _, rfl, ?_, ⟨_, rfl⟩, hW, hsame.mono (by decide) (by decide)⟩
      · show Steps p.tables e below (s₁.setTop (mkF m 13 #[.val (.ref a1), .val (.int (3 : Int32)), .val (.int (2 : Int32))] [(.int (x4 &&& (128 : Int32)))])) _
        refine XS.ifYes X0.here hx rfl (pc0 := 13) (pc' := 22) rfl (hb hby own_d1_13) rfl ((if0 _ _).trans (teq hc2).1) (by decide) (by decide) ?_
        show Steps p.tables e below (s₁.setTop (mkF m 22 #[.val (.ref a1), .val (.int (3 : Int32)), .val (.int (2 : Int32))] [])) _
        refine XS.iloadN X0.here hx rfl (hb hby own_d1_22) rfl ?_
        show Steps p.tables e below (s₁.setTop (mkF m 23 #[.val (.ref a1), .val (.int (3 : Int32)), .val (.int (2 : Int32))] [(.int (2 : Int32))])) _
        exact retI X0 hx Bd.returns (hb hby own_d1_23) hr
      · show own_v3_Q1 Z a1 k_a1 x0 x1 x2 x3 x4 x5 x6 x7 h0 n0 _ s₁.heap _
        rw [e0]
        exact ⟨(by rw [own_v3_f1, if_neg hc1, if_pos hc2]), N0, rfl⟩
    ·
      obtain ⟨cl5, Ar5, qk5, Sz5, Nn5, Hs5, Gf5⟩ := id V_a1
      have hin5 : ¬ ((5 : Int32) < 0 ∨ cl5.slots.size ≤ ((5 : Int32)).toNatClampNeg) := inb_of Sz5 ⟨by decide, by decide⟩
      have hat5 : cl5.slots[((5 : Int32)).toNatClampNeg]? = some (.int x5) := Has.at Hs5 hin5 rfl
      have k6 : ∀ t, Steps p.tables e below (s₁.setTop (mkF m 13 #[.val (.ref a1), .val (.int (3 : Int32)), .val (.int (3 : Int32))] [(.int (x5 &&& (128 : Int32)))])) t → Steps p.tables e below (s₁.setTop (entryFrame m #[(.ref a1), (.int (3 : Int32))] 3)) t := by
        intro t kt
        refine k4 t ?_
        show Steps p.tables e below (s₁.setTop (mkF m 13 #[.val (.ref a1), .val (.int (3 : Int32)), .val (.int (2 : Int32))] [(.int (x4 &&& (128 : Int32)))])) _
        refine XS.ifNo X0.here hx rfl (hb hby own_d1_13) rfl ((if0 _ _).trans (feq hc2).1) ?_
        show Steps p.tables e below (s₁.setTop (mkF m 16 #[.val (.ref a1), .val (.int (3 : Int32)), .val (.int (2 : Int32))] [])) _
        refine XS.iinc X0.here hx rfl (hb hby own_d1_16) rfl (l' := #[.val (.ref a1), .val (.int (3 : Int32)), .val (.int (3 : Int32))]) rfl ?_
        show Steps p.tables e below (s₁.setTop (mkF m 19 #[.val (.ref a1), .val (.int (3 : Int32)), .val (.int (3 : Int32))] [])) _
        refine XS.goto X0.here hx rfl (pc0 := 19) (pc' := 2) rfl (hb hby own_d1_19) (by decide) (by decide) ?_
        show Steps p.tables e below (s₁.setTop (mkF m 2 #[.val (.ref a1), .val (.int (3 : Int32)), .val (.int (3 : Int32))] [])) _
        refine XS.aloadN X0.here hx rfl (hb hby own_d1_2) rfl rfl ?_
        show Steps p.tables e below (s₁.setTop (mkF m 3 #[.val (.ref a1), .val (.int (3 : Int32)), .val (.int (3 : Int32))] [(.ref a1)])) _
        refine XS.iloadN X0.here hx rfl (hb hby own_d1_3) rfl ?_
        show Steps p.tables e below (s₁.setTop (mkF m 4 #[.val (.ref a1), .val (.int (3 : Int32)), .val (.int (3 : Int32))] [(.int (3 : Int32)), (.ref a1)])) _
        refine XS.iloadN X0.here hx rfl (hb hby own_d1_4) rfl ?_
        show Steps p.tables e below (s₁.setTop (mkF m 5 #[.val (.ref a1), .val (.int (3 : Int32)), .val (.int (3 : Int32))] [(.int (3 : Int32)), (.int (3 : Int32)), (.ref a1)])) _
        refine XS.iadd X0.here hx rfl (hb hby own_d1_5) rfl ?_
        show Steps p.tables e below (s₁.setTop (mkF m 6 #[.val (.ref a1), .val (.int (3 : Int32)), .val (.int (3 : Int32))] [(.int (6 : Int32)), (.ref a1)])) _
        refine XS.iconst X0.here hx rfl (hb hby own_d1_6) ?_
        show Steps p.tables e below (s₁.setTop (mkF m 7 #[.val (.ref a1), .val (.int (3 : Int32)), .val (.int (3 : Int32))] [(.int (1 : Int32)), (.int (6 : Int32)), (.ref a1)])) _
        refine XS.isub X0.here hx rfl (hb hby own_d1_7) rfl ?_
        show Steps p.tables e below (s₁.setTop (mkF m 8 #[.val (.ref a1), .val (.int (3 : Int32)), .val (.int (3 : Int32))] [(.int (5 : Int32)), (.ref a1)])) _
        refine X0.baloadBytes hx (j := (5 : Int32)) (v := (.int x5)) (by rw [e0]; exact Ar5.1) (State.isArrayOf_alike hZ.alike Ar5.2.1) Ar5.2.2 hin5 hat5 (g := (mkF m 8 #[.val (.ref a1), .val (.int (3 : Int32)), .val (.int (3 : Int32))] [(.int (5 : Int32)), (.ref a1)])) rfl rfl (hb hby own_d1_8) _ ?_
        show Steps p.tables e below (s₁.setTop (mkF m 9 #[.val (.ref a1), .val (.int (3 : Int32)), .val (.int (3 : Int32))] [(.int x5)])) _
        refine XS.sipush X0.here hx rfl (hb hby own_d1_9) ?_
        show Steps p.tables e below (s₁.setTop (mkF m 12 #[.val (.ref a1), .val (.int (3 : Int32)), .val (.int (3 : Int32))] [(.int (128 : Int32)), (.int x5)])) _
        refine XS.iand X0.here hx rfl (hb hby own_d1_12) rfl ?_
        exact kt
      by_cases hc3 : (x5 &&& (128 : Int32)) = (0 : Int32)
      ·
        obtain ⟨fs, hr, hrun, hended, hW, hsame⟩ := X0.leave (v := some (.int (3 : Int32))) (fun h => by rw [Bd.returns] at h; cases h)
        refine ⟨_, _, k6 _ ?_, hrun, hended, _, _, rfl, ?_, ⟨_, rfl⟩, hW, hsame.mono (by decide) (by decide)⟩
        · show Steps p.tables e below (s₁.setTop (mkF m 13 #[.val (.ref a1), .val (.int (3 : Int32)), .val (.int (3 : Int32))] [(.int (x5 &&& (128 : Int32)))])) _
          refine XS.ifYes X0.here hx rfl (pc0 := 13) (pc' := 22) rfl (hb hby own_d1_13) rfl ((if0 _ _).trans (teq hc3).1) (by decide) (by decide) ?_
          show Steps p.tables e below (s₁.setTop (mkF m 22 #[.val (.ref a1), .val (.int (3 : Int32)), .val (.int (3 : Int32))] [])) _
          refine XS.iloadN X0.here hx rfl (hb hby own_d1_22) rfl ?_
          show Steps p.tables e below (s₁.setTop (mkF m 23 #[.val (.ref a1), .val (.int (3 : Int32)), .val (.int (3 : Int32))] [(.int (3 : Int32))])) _
          exact retI X0 hx Bd.returns (hb hby own_d1_23) hr
        · show own_v3_Q1 Z a1 k_a1 x0 x1 x2 x3 x4 x5 x6 x7 h0 n0 _ s₁.heap _
          rw [e0]
          exact ⟨(by rw [own_v3_f1, if_neg hc1, if_neg hc2, if_pos hc3]), N0, rfl⟩
      ·
        obtain ⟨cl7, Ar7, qk7, Sz7, Nn7, Hs7, Gf7⟩ := id V_a1
        have hin7 : ¬ ((6 : Int32) < 0 ∨ cl7.slots.size ≤ ((6 : Int32)).toNatClampNeg) := inb_of Sz7 ⟨by decide, by decide⟩
        have hat7 : cl7.slots[((6 : Int32)).toNatClampNeg]? = some (.int x6) := Has.at Hs7 hin7 rfl
        obtain ⟨fs, hr, hrun, hended, hW, hsame⟩ := X0.leave (v := some (.int (4 : Int32))) (fun h => by rw [Bd.returns] at h; cases h)
        refine ⟨_, _, k6 _ ?_, hrun, hended, _, _, rfl, ?_, ⟨_, rfl⟩, hW, hsame.mono (by decide) (by decide)⟩
        · show Steps p.tables e below (s₁.setTop (mkF m 13 #[.val (.ref a1), .val (.int (3 : Int32)), .val (.int (3 : Int32))] [(.int (x5 &&& (128 : Int32)))])) _
          refine XS.ifNo X0.here hx rfl (hb hby own_d1_13) rfl ((if0 _ _).trans (feq hc3).1) ?_
          show Steps p.tables e below (s₁.setTop (mkF m 16 #[.val (.ref a1), .val (.int (3 : Int32)), .val (.int (3 : Int32))] [])) _
          refine XS.iinc X0.here hx rfl (hb hby own_d1_16) rfl (l' := #[.val (.ref a1), .val (.int (3 : Int32)), .val (.int (4 : Int32))]) rfl ?_
          show Steps p.tables e below (s₁.setTop (mkF m 19 #[.val (.ref a1), .val (.int (3 : Int32)), .val (.int (4 : Int32))] [])) _
          refine XS.goto X0.here hx rfl (pc0 := 19) (pc' := 2) rfl (hb hby own_d1_19) (by decide) (by decide) ?_
          show Steps p.tables e below (s₁.setTop (mkF m 2 #[.val (.ref a1), .val (.int (3 : Int32)), .val (.int (4 : Int32))] [])) _
          refine XS.aloadN X0.here hx rfl (hb hby own_d1_2) rfl rfl ?_
          show Steps p.tables e below (s₁.setTop (mkF m 3 #[.val (.ref a1), .val (.int (3 : Int32)), .val (.int (4 : Int32))] [(.ref a1)])) _
          refine XS.iloadN X0.here hx rfl (hb hby own_d1_3) rfl ?_
          show Steps p.tables e below (s₁.setTop (mkF m 4 #[.val (.ref a1), .val (.int (3 : Int32)), .val (.int (4 : Int32))] [(.int (3 : Int32)), (.ref a1)])) _
          refine XS.iloadN X0.here hx rfl (hb hby own_d1_4) rfl ?_
          show Steps p.tables e below (s₁.setTop (mkF m 5 #[.val (.ref a1), .val (.int (3 : Int32)), .val (.int (4 : Int32))] [(.int (4 : Int32)), (.int (3 : Int32)), (.ref a1)])) _
          refine XS.iadd X0.here hx rfl (hb hby own_d1_5) rfl ?_
          show Steps p.tables e below (s₁.setTop (mkF m 6 #[.val (.ref a1), .val (.int (3 : Int32)), .val (.int (4 : Int32))] [(.int (7 : Int32)), (.ref a1)])) _
          refine XS.iconst X0.here hx rfl (hb hby own_d1_6) ?_
          show Steps p.tables e below (s₁.setTop (mkF m 7 #[.val (.ref a1), .val (.int (3 : Int32)), .val (.int (4 : Int32))] [(.int (1 : Int32)), (.int (7 : Int32)), (.ref a1)])) _
          refine XS.isub X0.here hx rfl (hb hby own_d1_7) rfl ?_
          show Steps p.tables e below (s₁.setTop (mkF m 8 #[.val (.ref a1), .val (.int (3 : Int32)), .val (.int (4 : Int32))] [(.int (6 : Int32)), (.ref a1)])) _
          refine X0.baloadBytes hx (j := (6 : Int32)) (v := (.int x6)) (by rw [e0]; exact Ar7.1) (State.isArrayOf_alike hZ.alike Ar7.2.1) Ar7.2.2 hin7 hat7 (g := (mkF m 8 #[.val (.ref a1), .val (.int (3 : Int32)), .val (.int (4 : Int32))] [(.int (6 : Int32)), (.ref a1)])) rfl rfl (hb hby own_d1_8) _ ?_
          show Steps p.tables e below (s₁.setTop (mkF m 9 #[.val (.ref a1), .val (.int (3 : Int32)), .val (.int (4 : Int32))] [(.int x6)])) _
          refine XS.sipush X0.here hx rfl (hb hby own_d1_9) ?_
          show Steps p.tables e below (s₁.setTop (mkF m 12 #[.val (.ref a1), .val (.int (3 : Int32)), .val (.int (4 : Int32))] [(.int (128 : Int32)), (.int x6)])) _
          refine XS.iand X0.here hx rfl (hb hby own_d1_12) rfl ?_
          show Steps p.tables e below (s₁.setTop (mkF m 13 #[.val (.ref a1), .val (.int (3 : Int32)), .val (.int (4 : Int32))] [(.int (x6 &&& (128 : Int32)))])) _
          refine XS.ifYes X0.here hx rfl (pc0 := 13) (pc' := 22) rfl (hb hby own_d1_13) rfl ((if0 _ _).trans (teq (hz hc1 hc2 hc3)).1) (by decide) (by decide) ?_
          show Steps p.tables e below (s₁.setTop (mkF m 22 #[.val (.ref a1), .val (.int (3 : Int32)), .val (.int (4 : Int32))] [])) _
          refine XS.iloadN X0.here hx rfl (hb hby own_d1_22) rfl ?_
          show Steps p.tables e below (s₁.setTop (mkF m 23 #[.val (.ref a1), .val (.int (3 : Int32)), .val (.int (4 : Int32))] [(.int (4 : Int32))])) _
          exact retI X0 hx Bd.returns (hb hby own_d1_23) hr
        · show own_v3_Q1 Z a1 k_a1 x0 x1 x2 x3 x4 x5 x6 x7 h0 n0 _ s₁.heap _
          rw [e0]
          exact ⟨(by rw [own_v3_f1, if_neg hc1, if_neg hc2, if_neg hc3]), N0, rfl⟩
-- body 0
theorem own_ef0 (m : MethodId) (x0 : Int64) (x1 : Int32) : entryFrame m #[(.long x0), (.int x1)] maxLocals = mkF m 0 #[.val (.long x0), .second, .val (.int x1), .unset, .unset, .unset, .unset, .unset, .unset] [] := by first | (simp [entryFrame, mkF, argsToLocals, Value.category, maxLocals]; done) | rfl
def own_b0 (q1 : Int64) : Int32 := ((q1.toInt32).toInt8.toInt32)
def own_b1 (q1 : Int64) : Int32 := ((((q1.toUInt64 >>> ((8 : Int32) &&& 0x3f).toInt64.toUInt64).toInt64).toInt32).toInt8.toInt32)
def own_b2 (q1 : Int64) : Int32 := ((((q1.toUInt64 >>> ((16 : Int32) &&& 0x3f).toInt64.toUInt64).toInt64).toInt32).toInt8.toInt32)
def own_b3 (q1 : Int64) : Int32 := ((((q1.toUInt64 >>> ((24 : Int32) &&& 0x3f).toInt64.toUInt64).toInt64).toInt32).toInt8.toInt32)
def own_b4 (q1 : Int64) : Int32 := ((((q1.toUInt64 >>> ((32 : Int32) &&& 0x3f).toInt64.toUInt64).toInt64).toInt32).toInt8.toInt32)
def own_b5 (q1 : Int64) : Int32 := ((((q1.toUInt64 >>> ((40 : Int32) &&& 0x3f).toInt64.toUInt64).toInt64).toInt32).toInt8.toInt32)
def own_b6 (q1 : Int64) : Int32 := ((((q1.toUInt64 >>> ((48 : Int32) &&& 0x3f).toInt64.toUInt64).toInt64).toInt32).toInt8.toInt32)
def own_b7 (q1 : Int64) : Int32 := ((((q1.toUInt64 >>> ((56 : Int32) &&& 0x3f).toInt64.toUInt64).toInt64).toInt32).toInt8.toInt32)
def own_f0 (q1 : Int64) (p2 : Int32) : Int32 := if (p2 &&& (3 : Int32)) = (0 : Int32) then (if ((nar .byte (own_b0 q1)) &&& (128 : Int32)) = (0 : Int32) then (if ((nar .byte (own_b1 q1)) &&& (128 : Int32)) = (0 : Int32) then (if ((nar .byte (own_b2 q1)) &&& (128 : Int32)) = (0 : Int32) then (if (own_v0_f1 (nar .byte (own_b0 q1)) (nar .byte (own_b1 q1)) (nar .byte (own_b2 q1))) = (1 : Int32) then (1 : Int32)
            else (0 : Int32))
          else if (own_v0_f1 (nar .byte (own_b0 q1)) (nar .byte (own_b1 q1)) (nar .byte (own_b2 q1))) = (1 : Int32) then (1 : Int32)
            else (0 : Int32))
        else if ((nar .byte (own_b2 q1)) &&& (128 : Int32)) = (0 : Int32) then (if (own_v0_f1 (nar .byte (own_b0 q1)) (nar .byte (own_b1 q1)) (nar .byte (own_b2 q1))) = (1 : Int32) then (1 : Int32)
            else (0 : Int32))
          else if (own_v0_f1 (nar .byte (own_b0 q1)) (nar .byte (own_b1 q1)) (nar .byte (own_b2 q1))) = (1 : Int32) then (1 : Int32)
            else (0 : Int32))
      else if ((nar .byte (own_b1 q1)) &&& (128 : Int32)) = (0 : Int32) then (if ((nar .byte (own_b2 q1)) &&& (128 : Int32)) = (0 : Int32) then (if (own_v0_f1 (nar .byte (own_b0 q1)) (nar .byte (own_b1 q1)) (nar .byte (own_b2 q1))) = (2 : Int32) then (1 : Int32)
            else (0 : Int32))
          else if (own_v0_f1 (nar .byte (own_b0 q1)) (nar .byte (own_b1 q1)) (nar .byte (own_b2 q1))) = (2 : Int32) then (1 : Int32)
            else (0 : Int32))
        else if ((nar .byte (own_b2 q1)) &&& (128 : Int32)) = (0 : Int32) then (if (own_v0_f1 (nar .byte (own_b0 q1)) (nar .byte (own_b1 q1)) (nar .byte (own_b2 q1))) = (3 : Int32) then (1 : Int32)
            else (0 : Int32))
          else if (own_v0_f1 (nar .byte (own_b0 q1)) (nar .byte (own_b1 q1)) (nar .byte (own_b2 q1))) = (4 : Int32) then (1 : Int32)
            else (0 : Int32))
    else if (p2 &&& (3 : Int32)) = (1 : Int32) then (if ((nar .byte (own_b1 q1)) &&& (128 : Int32)) = (0 : Int32) then (if ((nar .byte (own_b2 q1)) &&& (128 : Int32)) = (0 : Int32) then (if ((nar .byte (own_b3 q1)) &&& (128 : Int32)) = (0 : Int32) then (if (own_v1_f1 (nar .byte (own_b1 q1)) (nar .byte (own_b2 q1)) (nar .byte (own_b3 q1))) = (1 : Int32) then (1 : Int32)
              else (0 : Int32))
            else if (own_v1_f1 (nar .byte (own_b1 q1)) (nar .byte (own_b2 q1)) (nar .byte (own_b3 q1))) = (1 : Int32) then (1 : Int32)
              else (0 : Int32))
          else if ((nar .byte (own_b3 q1)) &&& (128 : Int32)) = (0 : Int32) then (if (own_v1_f1 (nar .byte (own_b1 q1)) (nar .byte (own_b2 q1)) (nar .byte (own_b3 q1))) = (1 : Int32) then (1 : Int32)
              else (0 : Int32))
            else if (own_v1_f1 (nar .byte (own_b1 q1)) (nar .byte (own_b2 q1)) (nar .byte (own_b3 q1))) = (1 : Int32) then (1 : Int32)
              else (0 : Int32))
        else if ((nar .byte (own_b2 q1)) &&& (128 : Int32)) = (0 : Int32) then (if ((nar .byte (own_b3 q1)) &&& (128 : Int32)) = (0 : Int32) then (if (own_v1_f1 (nar .byte (own_b1 q1)) (nar .byte (own_b2 q1)) (nar .byte (own_b3 q1))) = (2 : Int32) then (1 : Int32)
              else (0 : Int32))
            else if (own_v1_f1 (nar .byte (own_b1 q1)) (nar .byte (own_b2 q1)) (nar .byte (own_b3 q1))) = (2 : Int32) then (1 : Int32)
              else (0 : Int32))
          else if ((nar .byte (own_b3 q1)) &&& (128 : Int32)) = (0 : Int32) then (if (own_v1_f1 (nar .byte (own_b1 q1)) (nar .byte (own_b2 q1)) (nar .byte (own_b3 q1))) = (3 : Int32) then (1 : Int32)
              else (0 : Int32))
            else if (own_v1_f1 (nar .byte (own_b1 q1)) (nar .byte (own_b2 q1)) (nar .byte (own_b3 q1))) = (4 : Int32) then (1 : Int32)
              else (0 : Int32))
      else if (p2 &&& (3 : Int32)) = (2 : Int32) then (if ((nar .byte (own_b2 q1)) &&& (128 : Int32)) = (0 : Int32) then (if ((nar .byte (own_b3 q1)) &&& (128 : Int32)) = (0 : Int32) then (if ((nar .byte (own_b4 q1)) &&& (128 : Int32)) = (0 : Int32) then (if (own_v2_f1 (nar .byte (own_b2 q1)) (nar .byte (own_b3 q1)) (nar .byte (own_b4 q1))) = (1 : Int32) then (1 : Int32)
                else (0 : Int32))
              else if (own_v2_f1 (nar .byte (own_b2 q1)) (nar .byte (own_b3 q1)) (nar .byte (own_b4 q1))) = (1 : Int32) then (1 : Int32)
                else (0 : Int32))
            else if ((nar .byte (own_b4 q1)) &&& (128 : Int32)) = (0 : Int32) then (if (own_v2_f1 (nar .byte (own_b2 q1)) (nar .byte (own_b3 q1)) (nar .byte (own_b4 q1))) = (1 : Int32) then (1 : Int32)
                else (0 : Int32))
              else if (own_v2_f1 (nar .byte (own_b2 q1)) (nar .byte (own_b3 q1)) (nar .byte (own_b4 q1))) = (1 : Int32) then (1 : Int32)
                else (0 : Int32))
          else if ((nar .byte (own_b3 q1)) &&& (128 : Int32)) = (0 : Int32) then (if ((nar .byte (own_b4 q1)) &&& (128 : Int32)) = (0 : Int32) then (if (own_v2_f1 (nar .byte (own_b2 q1)) (nar .byte (own_b3 q1)) (nar .byte (own_b4 q1))) = (2 : Int32) then (1 : Int32)
                else (0 : Int32))
              else if (own_v2_f1 (nar .byte (own_b2 q1)) (nar .byte (own_b3 q1)) (nar .byte (own_b4 q1))) = (2 : Int32) then (1 : Int32)
                else (0 : Int32))
            else if ((nar .byte (own_b4 q1)) &&& (128 : Int32)) = (0 : Int32) then (if (own_v2_f1 (nar .byte (own_b2 q1)) (nar .byte (own_b3 q1)) (nar .byte (own_b4 q1))) = (3 : Int32) then (1 : Int32)
                else (0 : Int32))
              else if (own_v2_f1 (nar .byte (own_b2 q1)) (nar .byte (own_b3 q1)) (nar .byte (own_b4 q1))) = (4 : Int32) then (1 : Int32)
                else (0 : Int32))
        else if ((nar .byte (own_b3 q1)) &&& (128 : Int32)) = (0 : Int32) then (if ((nar .byte (own_b4 q1)) &&& (128 : Int32)) = (0 : Int32) then (if ((nar .byte (own_b5 q1)) &&& (128 : Int32)) = (0 : Int32) then (if (own_v3_f1 (nar .byte (own_b3 q1)) (nar .byte (own_b4 q1)) (nar .byte (own_b5 q1))) = (1 : Int32) then (1 : Int32)
                else (0 : Int32))
              else if (own_v3_f1 (nar .byte (own_b3 q1)) (nar .byte (own_b4 q1)) (nar .byte (own_b5 q1))) = (1 : Int32) then (1 : Int32)
                else (0 : Int32))
            else if ((nar .byte (own_b5 q1)) &&& (128 : Int32)) = (0 : Int32) then (if (own_v3_f1 (nar .byte (own_b3 q1)) (nar .byte (own_b4 q1)) (nar .byte (own_b5 q1))) = (1 : Int32) then (1 : Int32)
                else (0 : Int32))
              else if (own_v3_f1 (nar .byte (own_b3 q1)) (nar .byte (own_b4 q1)) (nar .byte (own_b5 q1))) = (1 : Int32) then (1 : Int32)
                else (0 : Int32))
          else if ((nar .byte (own_b4 q1)) &&& (128 : Int32)) = (0 : Int32) then (if ((nar .byte (own_b5 q1)) &&& (128 : Int32)) = (0 : Int32) then (if (own_v3_f1 (nar .byte (own_b3 q1)) (nar .byte (own_b4 q1)) (nar .byte (own_b5 q1))) = (2 : Int32) then (1 : Int32)
                else (0 : Int32))
              else if (own_v3_f1 (nar .byte (own_b3 q1)) (nar .byte (own_b4 q1)) (nar .byte (own_b5 q1))) = (2 : Int32) then (1 : Int32)
                else (0 : Int32))
            else if ((nar .byte (own_b5 q1)) &&& (128 : Int32)) = (0 : Int32) then (if (own_v3_f1 (nar .byte (own_b3 q1)) (nar .byte (own_b4 q1)) (nar .byte (own_b5 q1))) = (3 : Int32) then (1 : Int32)
                else (0 : Int32))
              else if (own_v3_f1 (nar .byte (own_b3 q1)) (nar .byte (own_b4 q1)) (nar .byte (own_b5 q1))) = (4 : Int32) then (1 : Int32)
                else (0 : Int32)
def own_Q0 (Z : State) (q1 : Int64) (p2 : Int32) (h0 : Heap) (n0 : Nat) (v : Option Value) (h : Heap) (L : List Loc) : Prop := v = some (.int (own_f0 q1 p2)) ∧ Fr n0 L
set_option maxRecDepth 65536 in
set_option maxHeartbeats 40000000 in
theorem own_rm0 (l : Launch) (Z : State) (a0 : Array Value) (hw : ∀ d ∈ tables_1, d.before a0 Z = true) (ws : List Jvm.Cond) (q1 : Int64) (p2 : Int32) (h0 : Heap) (n0 : Nat) (Z0 : n0 ≤ h0.size) :
    MetFree l x (head1 (Jvm.Cond.code x code maxLocals ret :: ws) room_1) (fun a U => a = #[(.long q1), (.int p2)] ∧ Z.Warmed39 U.vm ∧ U.heap = h0) (fun _ _ _ _ _ => True) (fun _ U o U' => ∃ v L, o = .returned v ∧ own_Q0 Z q1 p2 h0 n0 v U'.heap L ∧ FrameEnd U o U' L room_1.cells room_1.slots) := by
  refine MetFree.of_bodySF (plainFor_of_name own_pn26) hisR ?_
  intro p e s m args below meth c s₁ Bd hml0 hP hK
  obtain ⟨rfl, hZ, hh⟩ := hP
  have hx := Bd.exec
  have hby := Bd.bytes
  have hml : c.maxLocals = 9 := hml0
  have hown : s.vm.findClass "com/example/castd/castd/mqtt/VariableByteIntegerLengthPinLaw" = some m.cls := findClass_of_methodNamed Bd.named
  have hnm := (name_of_methodNamed Bd.named Bd.method).1
  have X0 : Stand p l e room_1 s m #[(.long q1), (.int p2)] below meth c s₁ [] 0 0 := Stand.of_body Bd
  have e0 : s₁.heap = h0 := by rw [← hh, Bd.state]; rfl
  have N0 := Fr.nil n0
  have pre0 : ∀ t, Steps p.tables e below (s₁.setTop (mkF m 0 #[.val (.long q1), .second, .val (.int p2), .unset, .unset, .unset, .unset, .unset, .unset] [])) t → Steps p.tables e below (s₁.setTop (entryFrame m #[(.long q1), (.int p2)] maxLocals)) t := fun t k => castTop (own_ef0 m q1 p2) k
  obtain ⟨T1, h1, k1, X1, e1, E1, A1, st1⟩ := newP X0 hx hZ (hw _ (List.mem_of_getElem? (i := 0) rfl)) e0 (g := (mkF m 6 #[.val (.long q1), .second, .val (.int p2), .val (.int (p2 &&& (3 : Int32))), .unset, .unset, .unset, .unset, .unset] [(.int (8 : Int32))])) rfl (hb hby at_6) rfl (by decide) (cap := 8) (by decide) (by decide) (by decide) (by decide)
  obtain ⟨b1, g1⟩ : ∃ z, z = h0.size := ⟨_, rfl⟩
  rw [← g1] at A1 st1
  have g_b1 : n0 ≤ b1 := Nat.le_trans Z0 (Nat.le_of_eq g1.symm)
  have Z2 := Nat.le_trans Z0 E1.1
  have V_b1 : Arv Z h1 b1 k1 .byte (8 : Int32) [(.int (0 : Int32)), (.int (0 : Int32)), (.int (0 : Int32)), (.int (0 : Int32)), (.int (0 : Int32)), (.int (0 : Int32)), (.int (0 : Int32)), (.int (0 : Int32))] (.int (0 : Int32)) := (Arv.new A1 (by decide)).pad (pad_rep [] (.int (0 : Int32)) 8)
  obtain ⟨cl3, Ar3, qk3, Sz3, Nn3, Hs3, Gf3⟩ := id V_b1
  have hin3 : ¬ ((0 : Int32) < 0 ∨ cl3.slots.size ≤ ((0 : Int32)).toNatClampNeg) := inb_of Sz3 ⟨by decide, by decide⟩
  obtain ⟨T4, h4, X4, e4, W4, st4⟩ := stB X1 hx hZ e1 Ar3 (j := (0 : Int32)) hin3 (g := (mkF m 16 #[.val (.long q1), .second, .val (.int p2), .val (.int (p2 &&& (3 : Int32))), .val (.ref b1), .unset, .unset, .unset, .unset] [(.int (own_b0 q1)), (.int (0 : Int32)), (.ref b1)])) rfl rfl (hb hby at_16)
  have V_b1_4 : Arv Z h4 b1 k1 .byte (8 : Int32) [(.int (nar .byte (own_b0 q1))), (.int (0 : Int32)), (.int (0 : Int32)), (.int (0 : Int32)), (.int (0 : Int32)), (.int (0 : Int32)), (.int (0 : Int32)), (.int (0 : Int32))] (.int (0 : Int32)) := Arv.set Ar3 qk3 Sz3 Nn3 Hs3 Gf3 (fits_nar_byte _) W4 0 rfl (Nat.le_of_ble_eq_true rfl)
  have N5 := Fr.snoc X4 N0 g_b1
  have Z6 := Nat.le_trans Z2 (Keep.of_wr W4).1
  obtain ⟨cl7, Ar7, qk7, Sz7, Nn7, Hs7, Gf7⟩ := id V_b1_4
  have hin7 : ¬ ((1 : Int32) < 0 ∨ cl7.slots.size ≤ ((1 : Int32)).toNatClampNeg) := inb_of Sz7 ⟨by decide, by decide⟩
  obtain ⟨T8, h8, X8, e8, W8, st8⟩ := stB X4 hx hZ e4 Ar7 (j := (1 : Int32)) hin7 (g := (mkF m 26 #[.val (.long q1), .second, .val (.int p2), .val (.int (p2 &&& (3 : Int32))), .val (.ref b1), .unset, .unset, .unset, .unset] [(.int (own_b1 q1)), (.int (1 : Int32)), (.ref b1)])) rfl rfl (hb hby at_26)
  have V_b1_8 : Arv Z h8 b1 k1 .byte (8 : Int32) [(.int (nar .byte (own_b0 q1))), (.int (nar .byte (own_b1 q1))), (.int (0 : Int32)), (.int (0 : Int32)), (.int (0 : Int32)), (.int (0 : Int32)), (.int (0 : Int32)), (.int (0 : Int32))] (.int (0 : Int32)) := Arv.set Ar7 qk7 Sz7 Nn7 Hs7 Gf7 (fits_nar_byte _) W8 1 rfl (Nat.le_of_ble_eq_true rfl)
  have N9 := Fr.snoc X8 N5 g_b1
  have Z10 := Nat.le_trans Z6 (Keep.of_wr W8).1
  obtain ⟨cl11, Ar11, qk11, Sz11, Nn11, Hs11, Gf11⟩ := id V_b1_8
  have hin11 : ¬ ((2 : Int32) < 0 ∨ cl11.slots.size ≤ ((2 : Int32)).toNatClampNeg) := inb_of Sz11 ⟨by decide, by decide⟩
  obtain ⟨T12, h12, X12, e12, W12, st12⟩ := stB X8 hx hZ e8 Ar11 (j := (2 : Int32)) hin11 (g := (mkF m 36 #[.val (.long q1), .second, .val (.int p2), .val (.int (p2 &&& (3 : Int32))), .val (.ref b1), .unset, .unset, .unset, .unset] [(.int (own_b2 q1)), (.int (2 : Int32)), (.ref b1)])) rfl rfl (hb hby at_36)
  have V_b1_12 : Arv Z h12 b1 k1 .byte (8 : Int32) [(.int (nar .byte (own_b0 q1))), (.int (nar .byte (own_b1 q1))), (.int (nar .byte (own_b2 q1))), (.int (0 : Int32)), (.int (0 : Int32)), (.int (0 : Int32)), (.int (0 : Int32)), (.int (0 : Int32))] (.int (0 : Int32)) := Arv.set Ar11 qk11 Sz11 Nn11 Hs11 Gf11 (fits_nar_byte _) W12 2 rfl (Nat.le_of_ble_eq_true rfl)
  have N13 := Fr.snoc X12 N9 g_b1
  have Z14 := Nat.le_trans Z10 (Keep.of_wr W12).1
  obtain ⟨cl15, Ar15, qk15, Sz15, Nn15, Hs15, Gf15⟩ := id V_b1_12
  have hin15 : ¬ ((3 : Int32) < 0 ∨ cl15.slots.size ≤ ((3 : Int32)).toNatClampNeg) := inb_of Sz15 ⟨by decide, by decide⟩
  obtain ⟨T16, h16, X16, e16, W16, st16⟩ := stB X12 hx hZ e12 Ar15 (j := (3 : Int32)) hin15 (g := (mkF m 46 #[.val (.long q1), .second, .val (.int p2), .val (.int (p2 &&& (3 : Int32))), .val (.ref b1), .unset, .unset, .unset, .unset] [(.int (own_b3 q1)), (.int (3 : Int32)), (.ref b1)])) rfl rfl (hb hby at_46)
  have V_b1_16 : Arv Z h16 b1 k1 .byte (8 : Int32) [(.int (nar .byte (own_b0 q1))), (.int (nar .byte (own_b1 q1))), (.int (nar .byte (own_b2 q1))), (.int (nar .byte (own_b3 q1))), (.int (0 : Int32)), (.int (0 : Int32)), (.int (0 : Int32)), (.int (0 : Int32))] (.int (0 : Int32)) := Arv.set Ar15 qk15 Sz15 Nn15 Hs15 Gf15 (fits_nar_byte _) W16 3 rfl (Nat.le_of_ble_eq_true rfl)
  have N17 := Fr.snoc X16 N13 g_b1
  have Z18 := Nat.le_trans Z14 (Keep.of_wr W16).1
  obtain ⟨cl19, Ar19, qk19, Sz19, Nn19, Hs19, Gf19⟩ := id V_b1_16
  have hin19 : ¬ ((4 : Int32) < 0 ∨ cl19.slots.size ≤ ((4 : Int32)).toNatClampNeg) := inb_of Sz19 ⟨by decide, by decide⟩
  obtain ⟨T20, h20, X20, e20, W20, st20⟩ := stB X16 hx hZ e16 Ar19 (j := (4 : Int32)) hin19 (g := (mkF m 56 #[.val (.long q1), .second, .val (.int p2), .val (.int (p2 &&& (3 : Int32))), .val (.ref b1), .unset, .unset, .unset, .unset] [(.int (own_b4 q1)), (.int (4 : Int32)), (.ref b1)])) rfl rfl (hb hby at_56)
  have V_b1_20 : Arv Z h20 b1 k1 .byte (8 : Int32) [(.int (nar .byte (own_b0 q1))), (.int (nar .byte (own_b1 q1))), (.int (nar .byte (own_b2 q1))), (.int (nar .byte (own_b3 q1))), (.int (nar .byte (own_b4 q1))), (.int (0 : Int32)), (.int (0 : Int32)), (.int (0 : Int32))] (.int (0 : Int32)) := Arv.set Ar19 qk19 Sz19 Nn19 Hs19 Gf19 (fits_nar_byte _) W20 4 rfl (Nat.le_of_ble_eq_true rfl)
  have N21 := Fr.snoc X20 N17 g_b1
  have Z22 := Nat.le_trans Z18 (Keep.of_wr W20).1
  obtain ⟨cl23, Ar23, qk23, Sz23, Nn23, Hs23, Gf23⟩ := id V_b1_20
  have hin23 : ¬ ((5 : Int32) < 0 ∨ cl23.slots.size ≤ ((5 : Int32)).toNatClampNeg) := inb_of Sz23 ⟨by decide, by decide⟩
  obtain ⟨T24, h24, X24, e24, W24, st24⟩ := stB X20 hx hZ e20 Ar23 (j := (5 : Int32)) hin23 (g := (mkF m 66 #[.val (.long q1), .second, .val (.int p2), .val (.int (p2 &&& (3 : Int32))), .val (.ref b1), .unset, .unset, .unset, .unset] [(.int (own_b5 q1)), (.int (5 : Int32)), (.ref b1)])) rfl rfl (hb hby at_66)
  have V_b1_24 : Arv Z h24 b1 k1 .byte (8 : Int32) [(.int (nar .byte (own_b0 q1))), (.int (nar .byte (own_b1 q1))), (.int (nar .byte (own_b2 q1))), (.int (nar .byte (own_b3 q1))), (.int (nar .byte (own_b4 q1))), (.int (nar .byte (own_b5 q1))), (.int (0 : Int32)), (.int (0 : Int32))] (.int (0 : Int32)) := Arv.set Ar23 qk23 Sz23 Nn23 Hs23 Gf23 (fits_nar_byte _) W24 5 rfl (Nat.le_of_ble_eq_true rfl)
  have N25 := Fr.snoc X24 N21 g_b1
  have Z26 := Nat.le_trans Z22 (Keep.of_wr W24).1
  obtain ⟨cl27, Ar27, qk27, Sz27, Nn27, Hs27, Gf27⟩ := id V_b1_24
  have hin27 : ¬ ((6 : Int32) < 0 ∨ cl27.slots.size ≤ ((6 : Int32)).toNatClampNeg) := inb_of Sz27 ⟨by decide, by decide⟩
  obtain ⟨T28, h28, X28, e28, W28, st28⟩ := stB X24 hx hZ e24 Ar27 (j := (6 : Int32)) hin27 (g := (mkF m 77 #[.val (.long q1), .second, .val (.int p2), .val (.int (p2 &&& (3 : Int32))), .val (.ref b1), .unset, .unset, .unset, .unset] [(.int (own_b6 q1)), (.int (6 : Int32)), (.ref b1)])) rfl rfl (hb hby at_77)
  have V_b1_28 : Arv Z h28 b1 k1 .byte (8 : Int32) [(.int (nar .byte (own_b0 q1))), (.int (nar .byte (own_b1 q1))), (.int (nar .byte (own_b2 q1))), (.int (nar .byte (own_b3 q1))), (.int (nar .byte (own_b4 q1))), (.int (nar .byte (own_b5 q1))), (.int (nar .byte (own_b6 q1))), (.int (0 : Int32))] (.int (0 : Int32)) := Arv.set Ar27 qk27 Sz27 Nn27 Hs27 Gf27 (fits_nar_byte _) W28 6 rfl (Nat.le_of_ble_eq_true rfl)
  have N29 := Fr.snoc X28 N25 g_b1
  have Z30 := Nat.le_trans Z26 (Keep.of_wr W28).1
  obtain ⟨cl31, Ar31, qk31, Sz31, Nn31, Hs31, Gf31⟩ := id V_b1_28
  have hin31 : ¬ ((7 : Int32) < 0 ∨ cl31.slots.size ≤ ((7 : Int32)).toNatClampNeg) := inb_of Sz31 ⟨by decide, by decide⟩
  obtain ⟨T32, h32, X32, e32, W32, st32⟩ := stB X28 hx hZ e28 Ar31 (j := (7 : Int32)) hin31 (g := (mkF m 88 #[.val (.long q1), .second, .val (.int p2), .val (.int (p2 &&& (3 : Int32))), .val (.ref b1), .unset, .unset, .unset, .unset] [(.int (own_b7 q1)), (.int (7 : Int32)), (.ref b1)])) rfl rfl (hb hby at_88)
  have V_b1_32 : Arv Z h32 b1 k1 .byte (8 : Int32) [(.int (nar .byte (own_b0 q1))), (.int (nar .byte (own_b1 q1))), (.int (nar .byte (own_b2 q1))), (.int (nar .byte (own_b3 q1))), (.int (nar .byte (own_b4 q1))), (.int (nar .byte (own_b5 q1))), (.int (nar .byte (own_b6 q1))), (.int (nar .byte (own_b7 q1)))] (.int (0 : Int32)) := Arv.set Ar31 qk31 Sz31 Nn31 Hs31 Gf31 (fits_nar_byte _) W32 7 rfl (Nat.le_of_ble_eq_true rfl)
  have N33 := Fr.snoc X32 N29 g_b1
  have Z34 := Nat.le_trans Z30 (Keep.of_wr W32).1
  have k35 : ∀ t, Steps p.tables e below (T32.setTop (mkF m 92 #[.val (.long q1), .second, .val (.int p2), .val (.int (p2 &&& (3 : Int32))), .val (.ref b1), .unset, .unset, .unset, .unset] [(.int (p2 &&& (3 : Int32))), (.ref b1)])) t → Steps p.tables e below (s₁.setTop (entryFrame m #[(.long q1), (.int p2)] maxLocals)) t := by
    intro t kt
    refine pre0 t ?_
    show Steps p.tables e below (s₁.setTop (mkF m 0 #[.val (.long q1), .second, .val (.int p2), .unset, .unset, .unset, .unset, .unset, .unset] [])) _
    refine XS.iloadN X0.here hx rfl (hb hby at_0) rfl ?_
    show Steps p.tables e below (s₁.setTop (mkF m 1 #[.val (.long q1), .second, .val (.int p2), .unset, .unset, .unset, .unset, .unset, .unset] [(.int p2)])) _
    refine XS.iconst X0.here hx rfl (hb hby at_1) ?_
    show Steps p.tables e below (s₁.setTop (mkF m 2 #[.val (.long q1), .second, .val (.int p2), .unset, .unset, .unset, .unset, .unset, .unset] [(.int (3 : Int32)), (.int p2)])) _
    refine XS.iand X0.here hx rfl (hb hby at_2) rfl ?_
    show Steps p.tables e below (s₁.setTop (mkF m 3 #[.val (.long q1), .second, .val (.int p2), .unset, .unset, .unset, .unset, .unset, .unset] [(.int (p2 &&& (3 : Int32)))])) _
    refine XS.istoreN X0.here hx rfl (hb hby at_3) rfl (l' := #[.val (.long q1), .second, .val (.int p2), .val (.int (p2 &&& (3 : Int32))), .unset, .unset, .unset, .unset, .unset]) rfl ?_
    show Steps p.tables e below (s₁.setTop (mkF m 4 #[.val (.long q1), .second, .val (.int p2), .val (.int (p2 &&& (3 : Int32))), .unset, .unset, .unset, .unset, .unset] [])) _
    refine XS.bipush X0.here hx rfl (hb hby at_4) ?_
    show Steps p.tables e below (s₁.setTop (mkF m 6 #[.val (.long q1), .second, .val (.int p2), .val (.int (p2 &&& (3 : Int32))), .unset, .unset, .unset, .unset, .unset] [(.int (8 : Int32))])) _
    refine st1 _ ?_
    show Steps p.tables e below (T1.setTop (mkF m 8 #[.val (.long q1), .second, .val (.int p2), .val (.int (p2 &&& (3 : Int32))), .unset, .unset, .unset, .unset, .unset] [(.ref b1)])) _
    refine XS.astore X1.here hx rfl (hb hby at_8) rfl rfl (l' := #[.val (.long q1), .second, .val (.int p2), .val (.int (p2 &&& (3 : Int32))), .val (.ref b1), .unset, .unset, .unset, .unset]) rfl ?_
    show Steps p.tables e below (T1.setTop (mkF m 10 #[.val (.long q1), .second, .val (.int p2), .val (.int (p2 &&& (3 : Int32))), .val (.ref b1), .unset, .unset, .unset, .unset] [])) _
    refine XS.aload X1.here hx rfl (hb hby at_10) rfl rfl ?_
    show Steps p.tables e below (T1.setTop (mkF m 12 #[.val (.long q1), .second, .val (.int p2), .val (.int (p2 &&& (3 : Int32))), .val (.ref b1), .unset, .unset, .unset, .unset] [(.ref b1)])) _
    refine XS.iconst X1.here hx rfl (hb hby at_12) ?_
    show Steps p.tables e below (T1.setTop (mkF m 13 #[.val (.long q1), .second, .val (.int p2), .val (.int (p2 &&& (3 : Int32))), .val (.ref b1), .unset, .unset, .unset, .unset] [(.int (0 : Int32)), (.ref b1)])) _
    refine XS.lloadN X1.here hx rfl (hb hby at_13) rfl ?_
    show Steps p.tables e below (T1.setTop (mkF m 14 #[.val (.long q1), .second, .val (.int p2), .val (.int (p2 &&& (3 : Int32))), .val (.ref b1), .unset, .unset, .unset, .unset] [(.long q1), (.int (0 : Int32)), (.ref b1)])) _
    refine XS.l2i X1.here hx rfl (hb hby at_14) rfl ?_
    show Steps p.tables e below (T1.setTop (mkF m 15 #[.val (.long q1), .second, .val (.int p2), .val (.int (p2 &&& (3 : Int32))), .val (.ref b1), .unset, .unset, .unset, .unset] [(.int (q1.toInt32)), (.int (0 : Int32)), (.ref b1)])) _
    refine XS.i2b X1.here hx rfl (hb hby at_15) rfl ?_
    show Steps p.tables e below (T1.setTop (mkF m 16 #[.val (.long q1), .second, .val (.int p2), .val (.int (p2 &&& (3 : Int32))), .val (.ref b1), .unset, .unset, .unset, .unset] [(.int (own_b0 q1)), (.int (0 : Int32)), (.ref b1)])) _
    refine st4 _ ?_
    show Steps p.tables e below (T4.setTop (mkF m 17 #[.val (.long q1), .second, .val (.int p2), .val (.int (p2 &&& (3 : Int32))), .val (.ref b1), .unset, .unset, .unset, .unset] [])) _
    refine XS.aload X4.here hx rfl (hb hby at_17) rfl rfl ?_
    show Steps p.tables e below (T4.setTop (mkF m 19 #[.val (.long q1), .second, .val (.int p2), .val (.int (p2 &&& (3 : Int32))), .val (.ref b1), .unset, .unset, .unset, .unset] [(.ref b1)])) _
    refine XS.iconst X4.here hx rfl (hb hby at_19) ?_
    show Steps p.tables e below (T4.setTop (mkF m 20 #[.val (.long q1), .second, .val (.int p2), .val (.int (p2 &&& (3 : Int32))), .val (.ref b1), .unset, .unset, .unset, .unset] [(.int (1 : Int32)), (.ref b1)])) _
    refine XS.lloadN X4.here hx rfl (hb hby at_20) rfl ?_
    show Steps p.tables e below (T4.setTop (mkF m 21 #[.val (.long q1), .second, .val (.int p2), .val (.int (p2 &&& (3 : Int32))), .val (.ref b1), .unset, .unset, .unset, .unset] [(.long q1), (.int (1 : Int32)), (.ref b1)])) _
    refine XS.bipush X4.here hx rfl (hb hby at_21) ?_
    show Steps p.tables e below (T4.setTop (mkF m 23 #[.val (.long q1), .second, .val (.int p2), .val (.int (p2 &&& (3 : Int32))), .val (.ref b1), .unset, .unset, .unset, .unset] [(.int (8 : Int32)), (.long q1), (.int (1 : Int32)), (.ref b1)])) _
    refine XS.lushr X4.here hx rfl (hb hby at_23) rfl ?_
    show Steps p.tables e below (T4.setTop (mkF m 24 #[.val (.long q1), .second, .val (.int p2), .val (.int (p2 &&& (3 : Int32))), .val (.ref b1), .unset, .unset, .unset, .unset] [(.long ((q1.toUInt64 >>> ((8 : Int32) &&& 0x3f).toInt64.toUInt64).toInt64)), (.int (1 : Int32)), (.ref b1)])) _
    refine XS.l2i X4.here hx rfl (hb hby at_24) rfl ?_
    show Steps p.tables e below (T4.setTop (mkF m 25 #[.val (.long q1), .second, .val (.int p2), .val (.int (p2 &&& (3 : Int32))), .val (.ref b1), .unset, .unset, .unset, .unset] [(.int (((q1.toUInt64 >>> ((8 : Int32) &&& 0x3f).toInt64.toUInt64).toInt64).toInt32)), (.int (1 : Int32)), (.ref b1)])) _
    refine XS.i2b X4.here hx rfl (hb hby at_25) rfl ?_
    show Steps p.tables e below (T4.setTop (mkF m 26 #[.val (.long q1), .second, .val (.int p2), .val (.int (p2 &&& (3 : Int32))), .val (.ref b1), .unset, .unset, .unset, .unset] [(.int (own_b1 q1)), (.int (1 : Int32)), (.ref b1)])) _
    refine st8 _ ?_
    show Steps p.tables e below (T8.setTop (mkF m 27 #[.val (.long q1), .second, .val (.int p2), .val (.int (p2 &&& (3 : Int32))), .val (.ref b1), .unset, .unset, .unset, .unset] [])) _
    refine XS.aload X8.here hx rfl (hb hby at_27) rfl rfl ?_
    show Steps p.tables e below (T8.setTop (mkF m 29 #[.val (.long q1), .second, .val (.int p2), .val (.int (p2 &&& (3 : Int32))), .val (.ref b1), .unset, .unset, .unset, .unset] [(.ref b1)])) _
    refine XS.iconst X8.here hx rfl (hb hby at_29) ?_
    show Steps p.tables e below (T8.setTop (mkF m 30 #[.val (.long q1), .second, .val (.int p2), .val (.int (p2 &&& (3 : Int32))), .val (.ref b1), .unset, .unset, .unset, .unset] [(.int (2 : Int32)), (.ref b1)])) _
    refine XS.lloadN X8.here hx rfl (hb hby at_30) rfl ?_
    show Steps p.tables e below (T8.setTop (mkF m 31 #[.val (.long q1), .second, .val (.int p2), .val (.int (p2 &&& (3 : Int32))), .val (.ref b1), .unset, .unset, .unset, .unset] [(.long q1), (.int (2 : Int32)), (.ref b1)])) _
    refine XS.bipush X8.here hx rfl (hb hby at_31) ?_
    show Steps p.tables e below (T8.setTop (mkF m 33 #[.val (.long q1), .second, .val (.int p2), .val (.int (p2 &&& (3 : Int32))), .val (.ref b1), .unset, .unset, .unset, .unset] [(.int (16 : Int32)), (.long q1), (.int (2 : Int32)), (.ref b1)])) _
    refine XS.lushr X8.here hx rfl (hb hby at_33) rfl ?_
    show Steps p.tables e below (T8.setTop (mkF m 34 #[.val (.long q1), .second, .val (.int p2), .val (.int (p2 &&& (3 : Int32))), .val (.ref b1), .unset, .unset, .unset, .unset] [(.long ((q1.toUInt64 >>> ((16 : Int32) &&& 0x3f).toInt64.toUInt64).toInt64)), (.int (2 : Int32)), (.ref b1)])) _
    refine XS.l2i X8.here hx rfl (hb hby at_34) rfl ?_
    show Steps p.tables e below (T8.setTop (mkF m 35 #[.val (.long q1), .second, .val (.int p2), .val (.int (p2 &&& (3 : Int32))), .val (.ref b1), .unset, .unset, .unset, .unset] [(.int (((q1.toUInt64 >>> ((16 : Int32) &&& 0x3f).toInt64.toUInt64).toInt64).toInt32)), (.int (2 : Int32)), (.ref b1)])) _
    refine XS.i2b X8.here hx rfl (hb hby at_35) rfl ?_
    show Steps p.tables e below (T8.setTop (mkF m 36 #[.val (.long q1), .second, .val (.int p2), .val (.int (p2 &&& (3 : Int32))), .val (.ref b1), .unset, .unset, .unset, .unset] [(.int (own_b2 q1)), (.int (2 : Int32)), (.ref b1)])) _
    refine st12 _ ?_
    show Steps p.tables e below (T12.setTop (mkF m 37 #[.val (.long q1), .second, .val (.int p2), .val (.int (p2 &&& (3 : Int32))), .val (.ref b1), .unset, .unset, .unset, .unset] [])) _
    refine XS.aload X12.here hx rfl (hb hby at_37) rfl rfl ?_
    show Steps p.tables e below (T12.setTop (mkF m 39 #[.val (.long q1), .second, .val (.int p2), .val (.int (p2 &&& (3 : Int32))), .val (.ref b1), .unset, .unset, .unset, .unset] [(.ref b1)])) _
    refine XS.iconst X12.here hx rfl (hb hby at_39) ?_
    show Steps p.tables e below (T12.setTop (mkF m 40 #[.val (.long q1), .second, .val (.int p2), .val (.int (p2 &&& (3 : Int32))), .val (.ref b1), .unset, .unset, .unset, .unset] [(.int (3 : Int32)), (.ref b1)])) _
    refine XS.lloadN X12.here hx rfl (hb hby at_40) rfl ?_
    show Steps p.tables e below (T12.setTop (mkF m 41 #[.val (.long q1), .second, .val (.int p2), .val (.int (p2 &&& (3 : Int32))), .val (.ref b1), .unset, .unset, .unset, .unset] [(.long q1), (.int (3 : Int32)), (.ref b1)])) _
    refine XS.bipush X12.here hx rfl (hb hby at_41) ?_
    show Steps p.tables e below (T12.setTop (mkF m 43 #[.val (.long q1), .second, .val (.int p2), .val (.int (p2 &&& (3 : Int32))), .val (.ref b1), .unset, .unset, .unset, .unset] [(.int (24 : Int32)), (.long q1), (.int (3 : Int32)), (.ref b1)])) _
    refine XS.lushr X12.here hx rfl (hb hby at_43) rfl ?_
    show Steps p.tables e below (T12.setTop (mkF m 44 #[.val (.long q1), .second, .val (.int p2), .val (.int (p2 &&& (3 : Int32))), .val (.ref b1), .unset, .unset, .unset, .unset] [(.long ((q1.toUInt64 >>> ((24 : Int32) &&& 0x3f).toInt64.toUInt64).toInt64)), (.int (3 : Int32)), (.ref b1)])) _
    refine XS.l2i X12.here hx rfl (hb hby at_44) rfl ?_
    show Steps p.tables e below (T12.setTop (mkF m 45 #[.val (.long q1), .second, .val (.int p2), .val (.int (p2 &&& (3 : Int32))), .val (.ref b1), .unset, .unset, .unset, .unset] [(.int (((q1.toUInt64 >>> ((24 : Int32) &&& 0x3f).toInt64.toUInt64).toInt64).toInt32)), (.int (3 : Int32)), (.ref b1)])) _
    refine XS.i2b X12.here hx rfl (hb hby at_45) rfl ?_
    show Steps p.tables e below (T12.setTop (mkF m 46 #[.val (.long q1), .second, .val (.int p2), .val (.int (p2 &&& (3 : Int32))), .val (.ref b1), .unset, .unset, .unset, .unset] [(.int (own_b3 q1)), (.int (3 : Int32)), (.ref b1)])) _
    refine st16 _ ?_
    show Steps p.tables e below (T16.setTop (mkF m 47 #[.val (.long q1), .second, .val (.int p2), .val (.int (p2 &&& (3 : Int32))), .val (.ref b1), .unset, .unset, .unset, .unset] [])) _
    refine XS.aload X16.here hx rfl (hb hby at_47) rfl rfl ?_
    show Steps p.tables e below (T16.setTop (mkF m 49 #[.val (.long q1), .second, .val (.int p2), .val (.int (p2 &&& (3 : Int32))), .val (.ref b1), .unset, .unset, .unset, .unset] [(.ref b1)])) _
    refine XS.iconst X16.here hx rfl (hb hby at_49) ?_
    show Steps p.tables e below (T16.setTop (mkF m 50 #[.val (.long q1), .second, .val (.int p2), .val (.int (p2 &&& (3 : Int32))), .val (.ref b1), .unset, .unset, .unset, .unset] [(.int (4 : Int32)), (.ref b1)])) _
    refine XS.lloadN X16.here hx rfl (hb hby at_50) rfl ?_
    show Steps p.tables e below (T16.setTop (mkF m 51 #[.val (.long q1), .second, .val (.int p2), .val (.int (p2 &&& (3 : Int32))), .val (.ref b1), .unset, .unset, .unset, .unset] [(.long q1), (.int (4 : Int32)), (.ref b1)])) _
    refine XS.bipush X16.here hx rfl (hb hby at_51) ?_
    show Steps p.tables e below (T16.setTop (mkF m 53 #[.val (.long q1), .second, .val (.int p2), .val (.int (p2 &&& (3 : Int32))), .val (.ref b1), .unset, .unset, .unset, .unset] [(.int (32 : Int32)), (.long q1), (.int (4 : Int32)), (.ref b1)])) _
    refine XS.lushr X16.here hx rfl (hb hby at_53) rfl ?_
    show Steps p.tables e below (T16.setTop (mkF m 54 #[.val (.long q1), .second, .val (.int p2), .val (.int (p2 &&& (3 : Int32))), .val (.ref b1), .unset, .unset, .unset, .unset] [(.long ((q1.toUInt64 >>> ((32 : Int32) &&& 0x3f).toInt64.toUInt64).toInt64)), (.int (4 : Int32)), (.ref b1)])) _
    refine XS.l2i X16.here hx rfl (hb hby at_54) rfl ?_
    show Steps p.tables e below (T16.setTop (mkF m 55 #[.val (.long q1), .second, .val (.int p2), .val (.int (p2 &&& (3 : Int32))), .val (.ref b1), .unset, .unset, .unset, .unset] [(.int (((q1.toUInt64 >>> ((32 : Int32) &&& 0x3f).toInt64.toUInt64).toInt64).toInt32)), (.int (4 : Int32)), (.ref b1)])) _
    refine XS.i2b X16.here hx rfl (hb hby at_55) rfl ?_
    show Steps p.tables e below (T16.setTop (mkF m 56 #[.val (.long q1), .second, .val (.int p2), .val (.int (p2 &&& (3 : Int32))), .val (.ref b1), .unset, .unset, .unset, .unset] [(.int (own_b4 q1)), (.int (4 : Int32)), (.ref b1)])) _
    refine st20 _ ?_
    show Steps p.tables e below (T20.setTop (mkF m 57 #[.val (.long q1), .second, .val (.int p2), .val (.int (p2 &&& (3 : Int32))), .val (.ref b1), .unset, .unset, .unset, .unset] [])) _
    refine XS.aload X20.here hx rfl (hb hby at_57) rfl rfl ?_
    show Steps p.tables e below (T20.setTop (mkF m 59 #[.val (.long q1), .second, .val (.int p2), .val (.int (p2 &&& (3 : Int32))), .val (.ref b1), .unset, .unset, .unset, .unset] [(.ref b1)])) _
    refine XS.iconst X20.here hx rfl (hb hby at_59) ?_
    show Steps p.tables e below (T20.setTop (mkF m 60 #[.val (.long q1), .second, .val (.int p2), .val (.int (p2 &&& (3 : Int32))), .val (.ref b1), .unset, .unset, .unset, .unset] [(.int (5 : Int32)), (.ref b1)])) _
    refine XS.lloadN X20.here hx rfl (hb hby at_60) rfl ?_
    show Steps p.tables e below (T20.setTop (mkF m 61 #[.val (.long q1), .second, .val (.int p2), .val (.int (p2 &&& (3 : Int32))), .val (.ref b1), .unset, .unset, .unset, .unset] [(.long q1), (.int (5 : Int32)), (.ref b1)])) _
    refine XS.bipush X20.here hx rfl (hb hby at_61) ?_
    show Steps p.tables e below (T20.setTop (mkF m 63 #[.val (.long q1), .second, .val (.int p2), .val (.int (p2 &&& (3 : Int32))), .val (.ref b1), .unset, .unset, .unset, .unset] [(.int (40 : Int32)), (.long q1), (.int (5 : Int32)), (.ref b1)])) _
    refine XS.lushr X20.here hx rfl (hb hby at_63) rfl ?_
    show Steps p.tables e below (T20.setTop (mkF m 64 #[.val (.long q1), .second, .val (.int p2), .val (.int (p2 &&& (3 : Int32))), .val (.ref b1), .unset, .unset, .unset, .unset] [(.long ((q1.toUInt64 >>> ((40 : Int32) &&& 0x3f).toInt64.toUInt64).toInt64)), (.int (5 : Int32)), (.ref b1)])) _
    refine XS.l2i X20.here hx rfl (hb hby at_64) rfl ?_
    show Steps p.tables e below (T20.setTop (mkF m 65 #[.val (.long q1), .second, .val (.int p2), .val (.int (p2 &&& (3 : Int32))), .val (.ref b1), .unset, .unset, .unset, .unset] [(.int (((q1.toUInt64 >>> ((40 : Int32) &&& 0x3f).toInt64.toUInt64).toInt64).toInt32)), (.int (5 : Int32)), (.ref b1)])) _
    refine XS.i2b X20.here hx rfl (hb hby at_65) rfl ?_
    show Steps p.tables e below (T20.setTop (mkF m 66 #[.val (.long q1), .second, .val (.int p2), .val (.int (p2 &&& (3 : Int32))), .val (.ref b1), .unset, .unset, .unset, .unset] [(.int (own_b5 q1)), (.int (5 : Int32)), (.ref b1)])) _
    refine st24 _ ?_
    show Steps p.tables e below (T24.setTop (mkF m 67 #[.val (.long q1), .second, .val (.int p2), .val (.int (p2 &&& (3 : Int32))), .val (.ref b1), .unset, .unset, .unset, .unset] [])) _
    refine XS.aload X24.here hx rfl (hb hby at_67) rfl rfl ?_
    show Steps p.tables e below (T24.setTop (mkF m 69 #[.val (.long q1), .second, .val (.int p2), .val (.int (p2 &&& (3 : Int32))), .val (.ref b1), .unset, .unset, .unset, .unset] [(.ref b1)])) _
    refine XS.bipush X24.here hx rfl (hb hby at_69) ?_
    show Steps p.tables e below (T24.setTop (mkF m 71 #[.val (.long q1), .second, .val (.int p2), .val (.int (p2 &&& (3 : Int32))), .val (.ref b1), .unset, .unset, .unset, .unset] [(.int (6 : Int32)), (.ref b1)])) _
    refine XS.lloadN X24.here hx rfl (hb hby at_71) rfl ?_
    show Steps p.tables e below (T24.setTop (mkF m 72 #[.val (.long q1), .second, .val (.int p2), .val (.int (p2 &&& (3 : Int32))), .val (.ref b1), .unset, .unset, .unset, .unset] [(.long q1), (.int (6 : Int32)), (.ref b1)])) _
    refine XS.bipush X24.here hx rfl (hb hby at_72) ?_
    show Steps p.tables e below (T24.setTop (mkF m 74 #[.val (.long q1), .second, .val (.int p2), .val (.int (p2 &&& (3 : Int32))), .val (.ref b1), .unset, .unset, .unset, .unset] [(.int (48 : Int32)), (.long q1), (.int (6 : Int32)), (.ref b1)])) _
    refine XS.lushr X24.here hx rfl (hb hby at_74) rfl ?_
    show Steps p.tables e below (T24.setTop (mkF m 75 #[.val (.long q1), .second, .val (.int p2), .val (.int (p2 &&& (3 : Int32))), .val (.ref b1), .unset, .unset, .unset, .unset] [(.long ((q1.toUInt64 >>> ((48 : Int32) &&& 0x3f).toInt64.toUInt64).toInt64)), (.int (6 : Int32)), (.ref b1)])) _
    refine XS.l2i X24.here hx rfl (hb hby at_75) rfl ?_
    show Steps p.tables e below (T24.setTop (mkF m 76 #[.val (.long q1), .second, .val (.int p2), .val (.int (p2 &&& (3 : Int32))), .val (.ref b1), .unset, .unset, .unset, .unset] [(.int (((q1.toUInt64 >>> ((48 : Int32) &&& 0x3f).toInt64.toUInt64).toInt64).toInt32)), (.int (6 : Int32)), (.ref b1)])) _
    refine XS.i2b X24.here hx rfl (hb hby at_76) rfl ?_
    show Steps p.tables e below (T24.setTop (mkF m 77 #[.val (.long q1), .second, .val (.int p2), .val (.int (p2 &&& (3 : Int32))), .val (.ref b1), .unset, .unset, .unset, .unset] [(.int (own_b6 q1)), (.int (6 : Int32)), (.ref b1)])) _
    refine st28 _ ?_
    show Steps p.tables e below (T28.setTop (mkF m 78 #[.val (.long q1), .second, .val (.int p2), .val (.int (p2 &&& (3 : Int32))), .val (.ref b1), .unset, .unset, .unset, .unset] [])) _
    refine XS.aload X28.here hx rfl (hb hby at_78) rfl rfl ?_
    show Steps p.tables e below (T28.setTop (mkF m 80 #[.val (.long q1), .second, .val (.int p2), .val (.int (p2 &&& (3 : Int32))), .val (.ref b1), .unset, .unset, .unset, .unset] [(.ref b1)])) _
    refine XS.bipush X28.here hx rfl (hb hby at_80) ?_
    show Steps p.tables e below (T28.setTop (mkF m 82 #[.val (.long q1), .second, .val (.int p2), .val (.int (p2 &&& (3 : Int32))), .val (.ref b1), .unset, .unset, .unset, .unset] [(.int (7 : Int32)), (.ref b1)])) _
    refine XS.lloadN X28.here hx rfl (hb hby at_82) rfl ?_
    show Steps p.tables e below (T28.setTop (mkF m 83 #[.val (.long q1), .second, .val (.int p2), .val (.int (p2 &&& (3 : Int32))), .val (.ref b1), .unset, .unset, .unset, .unset] [(.long q1), (.int (7 : Int32)), (.ref b1)])) _
    refine XS.bipush X28.here hx rfl (hb hby at_83) ?_
    show Steps p.tables e below (T28.setTop (mkF m 85 #[.val (.long q1), .second, .val (.int p2), .val (.int (p2 &&& (3 : Int32))), .val (.ref b1), .unset, .unset, .unset, .unset] [(.int (56 : Int32)), (.long q1), (.int (7 : Int32)), (.ref b1)])) _
    refine XS.lushr X28.here hx rfl (hb hby at_85) rfl ?_
    show Steps p.tables e below (T28.setTop (mkF m 86 #[.val (.long q1), .second, .val (.int p2), .val (.int (p2 &&& (3 : Int32))), .val (.ref b1), .unset, .unset, .unset, .unset] [(.long ((q1.toUInt64 >>> ((56 : Int32) &&& 0x3f).toInt64.toUInt64).toInt64)), (.int (7 : Int32)), (.ref b1)])) _
    refine XS.l2i X28.here hx rfl (hb hby at_86) rfl ?_
    show Steps p.tables e below (T28.setTop (mkF m 87 #[.val (.long q1), .second, .val (.int p2), .val (.int (p2 &&& (3 : Int32))), .val (.ref b1), .unset, .unset, .unset, .unset] [(.int (((q1.toUInt64 >>> ((56 : Int32) &&& 0x3f).toInt64.toUInt64).toInt64).toInt32)), (.int (7 : Int32)), (.ref b1)])) _
    refine XS.i2b X28.here hx rfl (hb hby at_87) rfl ?_
    show Steps p.tables e below (T28.setTop (mkF m 88 #[.val (.long q1), .second, .val (.int p2), .val (.int (p2 &&& (3 : Int32))), .val (.ref b1), .unset, .unset, .unset, .unset] [(.int (own_b7 q1)), (.int (7 : Int32)), (.ref b1)])) _
    refine st32 _ ?_
    show Steps p.tables e below (T32.setTop (mkF m 89 #[.val (.long q1), .second, .val (.int p2), .val (.int (p2 &&& (3 : Int32))), .val (.ref b1), .unset, .unset, .unset, .unset] [])) _
    refine XS.aload X32.here hx rfl (hb hby at_89) rfl rfl ?_
    show Steps p.tables e below (T32.setTop (mkF m 91 #[.val (.long q1), .second, .val (.int p2), .val (.int (p2 &&& (3 : Int32))), .val (.ref b1), .unset, .unset, .unset, .unset] [(.ref b1)])) _
    refine XS.iloadN X32.here hx rfl (hb hby at_91) rfl ?_
    exact kt
  by_cases hc1 : (p2 &&& (3 : Int32)) = (0 : Int32)
  ·
    have k36 : ∀ t, Steps p.tables e below (T32.setTop (mkF m 92 #[.val (.long q1), .second, .val (.int p2), .val (.int (0 : Int32)), .val (.ref b1), .unset, .unset, .unset, .unset] [(.int (0 : Int32)), (.ref b1)])) t → Steps p.tables e below (s₁.setTop (entryFrame m #[(.long q1), (.int p2)] maxLocals)) t := by
      intro t kt
      refine k35 t ?_
      rw [hc1]
      exact kt
    obtain ⟨cl37, Ar37, qk37, Sz37, Nn37, Hs37, Gf37⟩ := id V_b1_32
    have hin37 : ¬ ((0 : Int32) < 0 ∨ cl37.slots.size ≤ ((0 : Int32)).toNatClampNeg) := inb_of Sz37 ⟨by decide, by decide⟩
    have hat37 : cl37.slots[((0 : Int32)).toNatClampNeg]? = some (.int (nar .byte (own_b0 q1))) := Has.at Hs37 hin37 rfl
    have k38 : ∀ t, Steps p.tables e below (T32.setTop (mkF m 97 #[.val (.long q1), .second, .val (.int p2), .val (.int (0 : Int32)), .val (.ref b1), .unset, .unset, .unset, .unset] [(.int ((nar .byte (own_b0 q1)) &&& (128 : Int32)))])) t → Steps p.tables e below (s₁.setTop (entryFrame m #[(.long q1), (.int p2)] maxLocals)) t := by
      intro t kt
      refine k36 t ?_
      show Steps p.tables e below (T32.setTop (mkF m 92 #[.val (.long q1), .second, .val (.int p2), .val (.int (0 : Int32)), .val (.ref b1), .unset, .unset, .unset, .unset] [(.int (0 : Int32)), (.ref b1)])) _
      refine X32.baloadBytes hx (j := (0 : Int32)) (v := (.int (nar .byte (own_b0 q1)))) (by rw [e32]; exact Ar37.1) (State.isArrayOf_alike hZ.alike Ar37.2.1) Ar37.2.2 hin37 hat37 (g := (mkF m 92 #[.val (.long q1), .second, .val (.int p2), .val (.int (0 : Int32)), .val (.ref b1), .unset, .unset, .unset, .unset] [(.int (0 : Int32)), (.ref b1)])) rfl rfl (hb hby at_92) _ ?_
      show Steps p.tables e below (T32.setTop (mkF m 93 #[.val (.long q1), .second, .val (.int p2), .val (.int (0 : Int32)), .val (.ref b1), .unset, .unset, .unset, .unset] [(.int (nar .byte (own_b0 q1)))])) _
      refine XS.sipush X32.here hx rfl (hb hby at_93) ?_
      show Steps p.tables e below (T32.setTop (mkF m 96 #[.val (.long q1), .second, .val (.int p2), .val (.int (0 : Int32)), .val (.ref b1), .unset, .unset, .unset, .unset] [(.int (128 : Int32)), (.int (nar .byte (own_b0 q1)))])) _
      refine XS.iand X32.here hx rfl (hb hby at_96) rfl ?_
      exact kt
    by_cases hc2 : ((nar .byte (own_b0 q1)) &&& (128 : Int32)) = (0 : Int32)
    ·
      obtain ⟨cl39, Ar39, qk39, Sz39, Nn39, Hs39, Gf39⟩ := id V_b1_32
      have hin39 : ¬ ((1 : Int32) < 0 ∨ cl39.slots.size ≤ ((1 : Int32)).toNatClampNeg) := inb_of Sz39 ⟨by decide, by decide⟩
      have hat39 : cl39.slots[((1 : Int32)).toNatClampNeg]? = some (.int (nar .byte (own_b1 q1))) := Has.at Hs39 hin39 rfl
      have k40 : ∀ t, Steps p.tables e below (T32.setTop (mkF m 117 #[.val (.long q1), .second, .val (.int p2), .val (.int (0 : Int32)), .val (.ref b1), .val (.int (0 : Int32)), .unset, .unset, .unset] [(.int ((nar .byte (own_b1 q1)) &&& (128 : Int32)))])) t → Steps p.tables e below (s₁.setTop (entryFrame m #[(.long q1), (.int p2)] maxLocals)) t := by
        intro t kt
        refine k38 t ?_
        show Steps p.tables e below (T32.setTop (mkF m 97 #[.val (.long q1), .second, .val (.int p2), .val (.int (0 : Int32)), .val (.ref b1), .unset, .unset, .unset, .unset] [(.int ((nar .byte (own_b0 q1)) &&& (128 : Int32)))])) _
        refine XS.ifYes X32.here hx rfl (pc0 := 97) (pc' := 104) rfl (hb hby at_97) rfl ((if0 _ _).trans (teq hc2).1) (by decide) (by decide) ?_
        show Steps p.tables e below (T32.setTop (mkF m 104 #[.val (.long q1), .second, .val (.int p2), .val (.int (0 : Int32)), .val (.ref b1), .unset, .unset, .unset, .unset] [])) _
        refine XS.iconst X32.here hx rfl (hb hby at_104) ?_
        show Steps p.tables e below (T32.setTop (mkF m 105 #[.val (.long q1), .second, .val (.int p2), .val (.int (0 : Int32)), .val (.ref b1), .unset, .unset, .unset, .unset] [(.int (0 : Int32))])) _
        refine XS.istore X32.here hx rfl (hb hby at_105) rfl (l' := #[.val (.long q1), .second, .val (.int p2), .val (.int (0 : Int32)), .val (.ref b1), .val (.int (0 : Int32)), .unset, .unset, .unset]) rfl ?_
        show Steps p.tables e below (T32.setTop (mkF m 107 #[.val (.long q1), .second, .val (.int p2), .val (.int (0 : Int32)), .val (.ref b1), .val (.int (0 : Int32)), .unset, .unset, .unset] [])) _
        refine XS.aload X32.here hx rfl (hb hby at_107) rfl rfl ?_
        show Steps p.tables e below (T32.setTop (mkF m 109 #[.val (.long q1), .second, .val (.int p2), .val (.int (0 : Int32)), .val (.ref b1), .val (.int (0 : Int32)), .unset, .unset, .unset] [(.ref b1)])) _
        refine XS.iloadN X32.here hx rfl (hb hby at_109) rfl ?_
        show Steps p.tables e below (T32.setTop (mkF m 110 #[.val (.long q1), .second, .val (.int p2), .val (.int (0 : Int32)), .val (.ref b1), .val (.int (0 : Int32)), .unset, .unset, .unset] [(.int (0 : Int32)), (.ref b1)])) _
        refine XS.iconst X32.here hx rfl (hb hby at_110) ?_
        show Steps p.tables e below (T32.setTop (mkF m 111 #[.val (.long q1), .second, .val (.int p2), .val (.int (0 : Int32)), .val (.ref b1), .val (.int (0 : Int32)), .unset, .unset, .unset] [(.int (1 : Int32)), (.int (0 : Int32)), (.ref b1)])) _
        refine XS.iadd X32.here hx rfl (hb hby at_111) rfl ?_
        show Steps p.tables e below (T32.setTop (mkF m 112 #[.val (.long q1), .second, .val (.int p2), .val (.int (0 : Int32)), .val (.ref b1), .val (.int (0 : Int32)), .unset, .unset, .unset] [(.int (1 : Int32)), (.ref b1)])) _
        refine X32.baloadBytes hx (j := (1 : Int32)) (v := (.int (nar .byte (own_b1 q1)))) (by rw [e32]; exact Ar39.1) (State.isArrayOf_alike hZ.alike Ar39.2.1) Ar39.2.2 hin39 hat39 (g := (mkF m 112 #[.val (.long q1), .second, .val (.int p2), .val (.int (0 : Int32)), .val (.ref b1), .val (.int (0 : Int32)), .unset, .unset, .unset] [(.int (1 : Int32)), (.ref b1)])) rfl rfl (hb hby at_112) _ ?_
        show Steps p.tables e below (T32.setTop (mkF m 113 #[.val (.long q1), .second, .val (.int p2), .val (.int (0 : Int32)), .val (.ref b1), .val (.int (0 : Int32)), .unset, .unset, .unset] [(.int (nar .byte (own_b1 q1)))])) _
        refine XS.sipush X32.here hx rfl (hb hby at_113) ?_
        show Steps p.tables e below (T32.setTop (mkF m 116 #[.val (.long q1), .second, .val (.int p2), .val (.int (0 : Int32)), .val (.ref b1), .val (.int (0 : Int32)), .unset, .unset, .unset] [(.int (128 : Int32)), (.int (nar .byte (own_b1 q1)))])) _
        refine XS.iand X32.here hx rfl (hb hby at_116) rfl ?_
        exact kt
      by_cases hc3 : ((nar .byte (own_b1 q1)) &&& (128 : Int32)) = (0 : Int32)
      ·
        obtain ⟨cl41, Ar41, qk41, Sz41, Nn41, Hs41, Gf41⟩ := id V_b1_32
        have hin41 : ¬ ((2 : Int32) < 0 ∨ cl41.slots.size ≤ ((2 : Int32)).toNatClampNeg) := inb_of Sz41 ⟨by decide, by decide⟩
        have hat41 : cl41.slots[((2 : Int32)).toNatClampNeg]? = some (.int (nar .byte (own_b2 q1))) := Has.at Hs41 hin41 rfl
        have k42 : ∀ t, Steps p.tables e below (T32.setTop (mkF m 137 #[.val (.long q1), .second, .val (.int p2), .val (.int (0 : Int32)), .val (.ref b1), .val (.int (0 : Int32)), .val (.int (0 : Int32)), .unset, .unset] [(.int ((nar .byte (own_b2 q1)) &&& (128 : Int32)))])) t → Steps p.tables e below (s₁.setTop (entryFrame m #[(.long q1), (.int p2)] maxLocals)) t := by
          intro t kt
          refine k40 t ?_
          show Steps p.tables e below (T32.setTop (mkF m 117 #[.val (.long q1), .second, .val (.int p2), .val (.int (0 : Int32)), .val (.ref b1), .val (.int (0 : Int32)), .unset, .unset, .unset] [(.int ((nar .byte (own_b1 q1)) &&& (128 : Int32)))])) _
          refine XS.ifYes X32.here hx rfl (pc0 := 117) (pc' := 124) rfl (hb hby at_117) rfl ((if0 _ _).trans (teq hc3).1) (by decide) (by decide) ?_
          show Steps p.tables e below (T32.setTop (mkF m 124 #[.val (.long q1), .second, .val (.int p2), .val (.int (0 : Int32)), .val (.ref b1), .val (.int (0 : Int32)), .unset, .unset, .unset] [])) _
          refine XS.iconst X32.here hx rfl (hb hby at_124) ?_
          show Steps p.tables e below (T32.setTop (mkF m 125 #[.val (.long q1), .second, .val (.int p2), .val (.int (0 : Int32)), .val (.ref b1), .val (.int (0 : Int32)), .unset, .unset, .unset] [(.int (0 : Int32))])) _
          refine XS.istore X32.here hx rfl (hb hby at_125) rfl (l' := #[.val (.long q1), .second, .val (.int p2), .val (.int (0 : Int32)), .val (.ref b1), .val (.int (0 : Int32)), .val (.int (0 : Int32)), .unset, .unset]) rfl ?_
          show Steps p.tables e below (T32.setTop (mkF m 127 #[.val (.long q1), .second, .val (.int p2), .val (.int (0 : Int32)), .val (.ref b1), .val (.int (0 : Int32)), .val (.int (0 : Int32)), .unset, .unset] [])) _
          refine XS.aload X32.here hx rfl (hb hby at_127) rfl rfl ?_
          show Steps p.tables e below (T32.setTop (mkF m 129 #[.val (.long q1), .second, .val (.int p2), .val (.int (0 : Int32)), .val (.ref b1), .val (.int (0 : Int32)), .val (.int (0 : Int32)), .unset, .unset] [(.ref b1)])) _
          refine XS.iloadN X32.here hx rfl (hb hby at_129) rfl ?_
          show Steps p.tables e below (T32.setTop (mkF m 130 #[.val (.long q1), .second, .val (.int p2), .val (.int (0 : Int32)), .val (.ref b1), .val (.int (0 : Int32)), .val (.int (0 : Int32)), .unset, .unset] [(.int (0 : Int32)), (.ref b1)])) _
          refine XS.iconst X32.here hx rfl (hb hby at_130) ?_
          show Steps p.tables e below (T32.setTop (mkF m 131 #[.val (.long q1), .second, .val (.int p2), .val (.int (0 : Int32)), .val (.ref b1), .val (.int (0 : Int32)), .val (.int (0 : Int32)), .unset, .unset] [(.int (2 : Int32)), (.int (0 : Int32)), (.ref b1)])) _
          refine XS.iadd X32.here hx rfl (hb hby at_131) rfl ?_
          show Steps p.tables e below (T32.setTop (mkF m 132 #[.val (.long q1), .second, .val (.int p2), .val (.int (0 : Int32)), .val (.ref b1), .val (.int (0 : Int32)), .val (.int (0 : Int32)), .unset, .unset] [(.int (2 : Int32)), (.ref b1)])) _
          refine X32.baloadBytes hx (j := (2 : Int32)) (v := (.int (nar .byte (own_b2 q1)))) (by rw [e32]; exact Ar41.1) (State.isArrayOf_alike hZ.alike Ar41.2.1) Ar41.2.2 hin41 hat41 (g := (mkF m 132 #[.val (.long q1), .second, .val (.int p2), .val (.int (0 : Int32)), .val (.ref b1), .val (.int (0 : Int32)), .val (.int (0 : Int32)), .unset, .unset] [(.int (2 : Int32)), (.ref b1)])) rfl rfl (hb hby at_132) _ ?_
          show Steps p.tables e below (T32.setTop (mkF m 133 #[.val (.long q1), .second, .val (.int p2), .val (.int (0 : Int32)), .val (.ref b1), .val (.int (0 : Int32)), .val (.int (0 : Int32)), .unset, .unset] [(.int (nar .byte (own_b2 q1)))])) _
          refine XS.sipush X32.here hx rfl (hb hby at_133) ?_
          show Steps p.tables e below (T32.setTop (mkF m 136 #[.val (.long q1), .second, .val (.int p2), .val (.int (0 : Int32)), .val (.ref b1), .val (.int (0 : Int32)), .val (.int (0 : Int32)), .unset, .unset] [(.int (128 : Int32)), (.int (nar .byte (own_b2 q1)))])) _
          refine XS.iand X32.here hx rfl (hb hby at_136) rfl ?_
          exact kt
        by_cases hc4 : ((nar .byte (own_b2 q1)) &&& (128 : Int32)) = (0 : Int32)
        ·
          obtain ⟨v43, _, ⟨T43, L43, k43, n43⟩, -, X43, ⟨Lc43, hQ43, l43, y43, z43⟩, st43⟩ := Jvm.LawKit.callS X32 hx (y := (⟨"com/example/castd/castd/mqtt/VariableByteInteger", "length", "([BI)I"⟩ : MethodName)) hown (mvT hZ (hw _ (List.mem_of_getElem? (i := 1) rfl))) (mvT hZ (hw _ (List.mem_of_getElem? (i := 2) rfl))) (mvT hZ (hw _ (List.mem_of_getElem? (i := 3) rfl))) (mvT hZ (hw _ (List.mem_of_getElem? (i := 4) rfl))) (by decide) (backOf (W := 0) (own_v0_rm1 l Z a0 hw [] b1 k1 (nar .byte (own_b0 q1)) (nar .byte (own_b1 q1)) (nar .byte (own_b2 q1)) (nar .byte (own_b3 q1)) (nar .byte (own_b4 q1)) (nar .byte (own_b5 q1)) (nar .byte (own_b6 q1)) (nar .byte (own_b7 q1)) h32 n0 Z34 V_b1_32 (by intro h1 h2 h3; first | contradiction | exact own_clr _)) hZ (hw _ (List.mem_of_getElem? (i := 4) rfl)) (hw _ (List.mem_of_getElem? (i := 3) rfl)) (by decide) (by decide)) (g := (mkF m 217 #[.val (.long q1), .second, .val (.int p2), .val (.int (0 : Int32)), .val (.ref b1), .val (.int (0 : Int32)), .val (.int (0 : Int32)), .val (.int (0 : Int32)), .val (.int (1 : Int32))] [(.int (0 : Int32)), (.ref b1)])) rfl (by rw [hml]; rfl) (argsL := [(.ref b1), (.int (0 : Int32))]) (rest := []) (lenOf own_pd25 rfl) rfl (by show 2 * 0 + _ ≤ _; exact Nat.le_of_eq rfl) (hb hby at_217) (fun _ _ => ⟨rfl, e32, (by decide : 1 + 0 ≤ _), (by decide : 8 + 0 ≤ _)⟩)
          dsimp only [Pt.U, Pt.locs, Pt.cells, Pt.slots] at X43 l43 y43 z43 st43 hQ43
          subst l43 y43 z43
          obtain ⟨rfl, N43q, e43⟩ := hQ43
          have N44 := Fr.app N33 N43q
          have k45 : ∀ t, Steps p.tables e below (T43.setTop (mkF m 222 #[.val (.long q1), .second, .val (.int p2), .val (.int (0 : Int32)), .val (.ref b1), .val (.int (0 : Int32)), .val (.int (0 : Int32)), .val (.int (0 : Int32)), .val (.int (1 : Int32))] [(.int (1 : Int32)), (.int (own_v0_f1 (nar .byte (own_b0 q1)) (nar .byte (own_b1 q1)) (nar .byte (own_b2 q1))))])) t → Steps p.tables e below (s₁.setTop (entryFrame m #[(.long q1), (.int p2)] maxLocals)) t := by
            intro t kt
            refine k42 t ?_
            show Steps p.tables e below (T32.setTop (mkF m 137 #[.val (.long q1), .second, .val (.int p2), .val (.int (0 : Int32)), .val (.ref b1), .val (.int (0 : Int32)), .val (.int (0 : Int32)), .unset, .unset] [(.int ((nar .byte (own_b2 q1)) &&& (128 : Int32)))])) _
            refine XS.ifYes X32.here hx rfl (pc0 := 137) (pc' := 144) rfl (hb hby at_137) rfl ((if0 _ _).trans (teq hc4).1) (by decide) (by decide) ?_
            show Steps p.tables e below (T32.setTop (mkF m 144 #[.val (.long q1), .second, .val (.int p2), .val (.int (0 : Int32)), .val (.ref b1), .val (.int (0 : Int32)), .val (.int (0 : Int32)), .unset, .unset] [])) _
            refine XS.iconst X32.here hx rfl (hb hby at_144) ?_
            show Steps p.tables e below (T32.setTop (mkF m 145 #[.val (.long q1), .second, .val (.int p2), .val (.int (0 : Int32)), .val (.ref b1), .val (.int (0 : Int32)), .val (.int (0 : Int32)), .unset, .unset] [(.int (0 : Int32))])) _
            refine XS.istore X32.here hx rfl (hb hby at_145) rfl (l' := #[.val (.long q1), .second, .val (.int p2), .val (.int (0 : Int32)), .val (.ref b1), .val (.int (0 : Int32)), .val (.int (0 : Int32)), .val (.int (0 : Int32)), .unset]) rfl ?_
            show Steps p.tables e below (T32.setTop (mkF m 147 #[.val (.long q1), .second, .val (.int p2), .val (.int (0 : Int32)), .val (.ref b1), .val (.int (0 : Int32)), .val (.int (0 : Int32)), .val (.int (0 : Int32)), .unset] [])) _
            refine XS.iload X32.here hx rfl (hb hby at_147) rfl ?_
            show Steps p.tables e below (T32.setTop (mkF m 149 #[.val (.long q1), .second, .val (.int p2), .val (.int (0 : Int32)), .val (.ref b1), .val (.int (0 : Int32)), .val (.int (0 : Int32)), .val (.int (0 : Int32)), .unset] [(.int (0 : Int32))])) _
            refine XS.ifYes X32.here hx rfl (pc0 := 149) (pc' := 178) rfl (hb hby at_149) rfl ((if0 _ _).trans (teq (by decide : (0 : Int32) = (0 : Int32))).1) (by decide) (by decide) ?_
            show Steps p.tables e below (T32.setTop (mkF m 178 #[.val (.long q1), .second, .val (.int p2), .val (.int (0 : Int32)), .val (.ref b1), .val (.int (0 : Int32)), .val (.int (0 : Int32)), .val (.int (0 : Int32)), .unset] [])) _
            refine XS.iload X32.here hx rfl (hb hby at_178) rfl ?_
            show Steps p.tables e below (T32.setTop (mkF m 180 #[.val (.long q1), .second, .val (.int p2), .val (.int (0 : Int32)), .val (.ref b1), .val (.int (0 : Int32)), .val (.int (0 : Int32)), .val (.int (0 : Int32)), .unset] [(.int (0 : Int32))])) _
            refine XS.ifNo X32.here hx rfl (hb hby at_180) rfl ((if0 _ _).trans (teq (by decide : (0 : Int32) = (0 : Int32))).2) ?_
            show Steps p.tables e below (T32.setTop (mkF m 183 #[.val (.long q1), .second, .val (.int p2), .val (.int (0 : Int32)), .val (.ref b1), .val (.int (0 : Int32)), .val (.int (0 : Int32)), .val (.int (0 : Int32)), .unset] [])) _
            refine XS.iconst X32.here hx rfl (hb hby at_183) ?_
            show Steps p.tables e below (T32.setTop (mkF m 184 #[.val (.long q1), .second, .val (.int p2), .val (.int (0 : Int32)), .val (.ref b1), .val (.int (0 : Int32)), .val (.int (0 : Int32)), .val (.int (0 : Int32)), .unset] [(.int (1 : Int32))])) _
            refine XS.istore X32.here hx rfl (hb hby at_184) rfl (l' := #[.val (.long q1), .second, .val (.int p2), .val (.int (0 : Int32)), .val (.ref b1), .val (.int (0 : Int32)), .val (.int (0 : Int32)), .val (.int (0 : Int32)), .val (.int (1 : Int32))]) rfl ?_
            show Steps p.tables e below (T32.setTop (mkF m 186 #[.val (.long q1), .second, .val (.int p2), .val (.int (0 : Int32)), .val (.ref b1), .val (.int (0 : Int32)), .val (.int (0 : Int32)), .val (.int (0 : Int32)), .val (.int (1 : Int32))] [])) _
            refine XS.goto X32.here hx rfl (pc0 := 186) (pc' := 214) rfl (hb hby at_186) (by decide) (by decide) ?_
            show Steps p.tables e below (T32.setTop (mkF m 214 #[.val (.long q1), .second, .val (.int p2), .val (.int (0 : Int32)), .val (.ref b1), .val (.int (0 : Int32)), .val (.int (0 : Int32)), .val (.int (0 : Int32)), .val (.int (1 : Int32))] [])) _
            refine XS.aload X32.here hx rfl (hb hby at_214) rfl rfl ?_
            show Steps p.tables e below (T32.setTop (mkF m 216 #[.val (.long q1), .second, .val (.int p2), .val (.int (0 : Int32)), .val (.ref b1), .val (.int (0 : Int32)), .val (.int (0 : Int32)), .val (.int (0 : Int32)), .val (.int (1 : Int32))] [(.ref b1)])) _
            refine XS.iloadN X32.here hx rfl (hb hby at_216) rfl ?_
            show Steps p.tables e below (T32.setTop (mkF m 217 #[.val (.long q1), .second, .val (.int p2), .val (.int (0 : Int32)), .val (.ref b1), .val (.int (0 : Int32)), .val (.int (0 : Int32)), .val (.int (0 : Int32)), .val (.int (1 : Int32))] [(.int (0 : Int32)), (.ref b1)])) _
            refine st43 _ ?_
            show Steps p.tables e below (T43.setTop (mkF m 220 #[.val (.long q1), .second, .val (.int p2), .val (.int (0 : Int32)), .val (.ref b1), .val (.int (0 : Int32)), .val (.int (0 : Int32)), .val (.int (0 : Int32)), .val (.int (1 : Int32))] [(.int (own_v0_f1 (nar .byte (own_b0 q1)) (nar .byte (own_b1 q1)) (nar .byte (own_b2 q1))))])) _
            refine XS.iload X43.here hx rfl (hb hby at_220) rfl ?_
            exact kt
          by_cases hc5 : (own_v0_f1 (nar .byte (own_b0 q1)) (nar .byte (own_b1 q1)) (nar .byte (own_b2 q1))) = (1 : Int32)
          ·
            obtain ⟨fs, hr, hrun, hended, hW, hsame⟩ := X43.leave (v := some (.int (1 : Int32))) (fun h => by rw [Bd.returns] at h; cases h)
            refine ⟨_, _, k45 _ ?_, hrun, hended, _, _, rfl, ?_, ⟨_, rfl⟩, hW, hsame.mono (by decide) (by decide)⟩
            · show Steps p.tables e below (T43.setTop (mkF m 222 #[.val (.long q1), .second, .val (.int p2), .val (.int (0 : Int32)), .val (.ref b1), .val (.int (0 : Int32)), .val (.int (0 : Int32)), .val (.int (0 : Int32)), .val (.int (1 : Int32))] [(.int (1 : Int32)), (.int (own_v0_f1 (nar .byte (own_b0 q1)) (nar .byte (own_b1 q1)) (nar .byte (own_b2 q1))))])) _
              refine XS.icmpNo X43.here hx rfl (hb hby at_222) rfl (teq hc5).2 ?_
              show Steps p.tables e below (T43.setTop (mkF m 225 #[.val (.long q1), .second, .val (.int p2), .val (.int (0 : Int32)), .val (.ref b1), .val (.int (0 : Int32)), .val (.int (0 : Int32)), .val (.int (0 : Int32)), .val (.int (1 : Int32))] [])) _
              refine XS.iconst X43.here hx rfl (hb hby at_225) ?_
              show Steps p.tables e below (T43.setTop (mkF m 226 #[.val (.long q1), .second, .val (.int p2), .val (.int (0 : Int32)), .val (.ref b1), .val (.int (0 : Int32)), .val (.int (0 : Int32)), .val (.int (0 : Int32)), .val (.int (1 : Int32))] [(.int (1 : Int32))])) _
              refine XS.goto X43.here hx rfl (pc0 := 226) (pc' := 230) rfl (hb hby at_226) (by decide) (by decide) ?_
              show Steps p.tables e below (T43.setTop (mkF m 230 #[.val (.long q1), .second, .val (.int p2), .val (.int (0 : Int32)), .val (.ref b1), .val (.int (0 : Int32)), .val (.int (0 : Int32)), .val (.int (0 : Int32)), .val (.int (1 : Int32))] [(.int (1 : Int32))])) _
              exact retN X43 hx (t := .boolean) Bd.returns (by simp) (hb hby at_230) hr
            · show own_Q0 Z q1 p2 h0 n0 _ T43.heap _
              rw [e43]
              exact ⟨(by rw [own_f0, if_pos hc1, if_pos hc2, if_pos hc3, if_pos hc4, if_pos hc5]), N44⟩
          ·
            obtain ⟨fs, hr, hrun, hended, hW, hsame⟩ := X43.leave (v := some (.int (0 : Int32))) (fun h => by rw [Bd.returns] at h; cases h)
            refine ⟨_, _, k45 _ ?_, hrun, hended, _, _, rfl, ?_, ⟨_, rfl⟩, hW, hsame.mono (by decide) (by decide)⟩
            · show Steps p.tables e below (T43.setTop (mkF m 222 #[.val (.long q1), .second, .val (.int p2), .val (.int (0 : Int32)), .val (.ref b1), .val (.int (0 : Int32)), .val (.int (0 : Int32)), .val (.int (0 : Int32)), .val (.int (1 : Int32))] [(.int (1 : Int32)), (.int (own_v0_f1 (nar .byte (own_b0 q1)) (nar .byte (own_b1 q1)) (nar .byte (own_b2 q1))))])) _
              refine XS.icmpYes X43.here hx rfl (pc0 := 222) (pc' := 229) rfl (hb hby at_222) rfl (feq hc5).2 (by decide) (by decide) ?_
              show Steps p.tables e below (T43.setTop (mkF m 229 #[.val (.long q1), .second, .val (.int p2), .val (.int (0 : Int32)), .val (.ref b1), .val (.int (0 : Int32)), .val (.int (0 : Int32)), .val (.int (0 : Int32)), .val (.int (1 : Int32))] [])) _
              refine XS.iconst X43.here hx rfl (hb hby at_229) ?_
              show Steps p.tables e below (T43.setTop (mkF m 230 #[.val (.long q1), .second, .val (.int p2), .val (.int (0 : Int32)), .val (.ref b1), .val (.int (0 : Int32)), .val (.int (0 : Int32)), .val (.int (0 : Int32)), .val (.int (1 : Int32))] [(.int (0 : Int32))])) _
              exact retN X43 hx (t := .boolean) Bd.returns (by simp) (hb hby at_230) hr
            · show own_Q0 Z q1 p2 h0 n0 _ T43.heap _
              rw [e43]
              exact ⟨(by rw [own_f0, if_pos hc1, if_pos hc2, if_pos hc3, if_pos hc4, if_neg hc5]), N44⟩
        ·
          obtain ⟨v46, _, ⟨T46, L46, k46, n46⟩, -, X46, ⟨Lc46, hQ46, l46, y46, z46⟩, st46⟩ := Jvm.LawKit.callS X32 hx (y := (⟨"com/example/castd/castd/mqtt/VariableByteInteger", "length", "([BI)I"⟩ : MethodName)) hown (mvT hZ (hw _ (List.mem_of_getElem? (i := 1) rfl))) (mvT hZ (hw _ (List.mem_of_getElem? (i := 2) rfl))) (mvT hZ (hw _ (List.mem_of_getElem? (i := 3) rfl))) (mvT hZ (hw _ (List.mem_of_getElem? (i := 4) rfl))) (by decide) (backOf (W := 0) (own_v0_rm1 l Z a0 hw [] b1 k1 (nar .byte (own_b0 q1)) (nar .byte (own_b1 q1)) (nar .byte (own_b2 q1)) (nar .byte (own_b3 q1)) (nar .byte (own_b4 q1)) (nar .byte (own_b5 q1)) (nar .byte (own_b6 q1)) (nar .byte (own_b7 q1)) h32 n0 Z34 V_b1_32 (by intro h1 h2 h3; first | contradiction | exact own_clr _)) hZ (hw _ (List.mem_of_getElem? (i := 4) rfl)) (hw _ (List.mem_of_getElem? (i := 3) rfl)) (by decide) (by decide)) (g := (mkF m 217 #[.val (.long q1), .second, .val (.int p2), .val (.int (0 : Int32)), .val (.ref b1), .val (.int (0 : Int32)), .val (.int (0 : Int32)), .val (.int (1 : Int32)), .val (.int (1 : Int32))] [(.int (0 : Int32)), (.ref b1)])) rfl (by rw [hml]; rfl) (argsL := [(.ref b1), (.int (0 : Int32))]) (rest := []) (lenOf own_pd25 rfl) rfl (by show 2 * 0 + _ ≤ _; exact Nat.le_of_eq rfl) (hb hby at_217) (fun _ _ => ⟨rfl, e32, (by decide : 1 + 0 ≤ _), (by decide : 8 + 0 ≤ _)⟩)
          dsimp only [Pt.U, Pt.locs, Pt.cells, Pt.slots] at X46 l46 y46 z46 st46 hQ46
          subst l46 y46 z46
          obtain ⟨rfl, N46q, e46⟩ := hQ46
          have N47 := Fr.app N33 N46q
          have k48 : ∀ t, Steps p.tables e below (T46.setTop (mkF m 222 #[.val (.long q1), .second, .val (.int p2), .val (.int (0 : Int32)), .val (.ref b1), .val (.int (0 : Int32)), .val (.int (0 : Int32)), .val (.int (1 : Int32)), .val (.int (1 : Int32))] [(.int (1 : Int32)), (.int (own_v0_f1 (nar .byte (own_b0 q1)) (nar .byte (own_b1 q1)) (nar .byte (own_b2 q1))))])) t → Steps p.tables e below (s₁.setTop (entryFrame m #[(.long q1), (.int p2)] maxLocals)) t := by
            intro t kt
            refine k42 t ?_
            show Steps p.tables e below (T32.setTop (mkF m 137 #[.val (.long q1), .second, .val (.int p2), .val (.int (0 : Int32)), .val (.ref b1), .val (.int (0 : Int32)), .val (.int (0 : Int32)), .unset, .unset] [(.int ((nar .byte (own_b2 q1)) &&& (128 : Int32)))])) _
            refine XS.ifNo X32.here hx rfl (hb hby at_137) rfl ((if0 _ _).trans (feq hc4).1) ?_
            show Steps p.tables e below (T32.setTop (mkF m 140 #[.val (.long q1), .second, .val (.int p2), .val (.int (0 : Int32)), .val (.ref b1), .val (.int (0 : Int32)), .val (.int (0 : Int32)), .unset, .unset] [])) _
            refine XS.iconst X32.here hx rfl (hb hby at_140) ?_
            show Steps p.tables e below (T32.setTop (mkF m 141 #[.val (.long q1), .second, .val (.int p2), .val (.int (0 : Int32)), .val (.ref b1), .val (.int (0 : Int32)), .val (.int (0 : Int32)), .unset, .unset] [(.int (1 : Int32))])) _
            refine XS.goto X32.here hx rfl (pc0 := 141) (pc' := 145) rfl (hb hby at_141) (by decide) (by decide) ?_
            show Steps p.tables e below (T32.setTop (mkF m 145 #[.val (.long q1), .second, .val (.int p2), .val (.int (0 : Int32)), .val (.ref b1), .val (.int (0 : Int32)), .val (.int (0 : Int32)), .unset, .unset] [(.int (1 : Int32))])) _
            refine XS.istore X32.here hx rfl (hb hby at_145) rfl (l' := #[.val (.long q1), .second, .val (.int p2), .val (.int (0 : Int32)), .val (.ref b1), .val (.int (0 : Int32)), .val (.int (0 : Int32)), .val (.int (1 : Int32)), .unset]) rfl ?_
            show Steps p.tables e below (T32.setTop (mkF m 147 #[.val (.long q1), .second, .val (.int p2), .val (.int (0 : Int32)), .val (.ref b1), .val (.int (0 : Int32)), .val (.int (0 : Int32)), .val (.int (1 : Int32)), .unset] [])) _
            refine XS.iload X32.here hx rfl (hb hby at_147) rfl ?_
            show Steps p.tables e below (T32.setTop (mkF m 149 #[.val (.long q1), .second, .val (.int p2), .val (.int (0 : Int32)), .val (.ref b1), .val (.int (0 : Int32)), .val (.int (0 : Int32)), .val (.int (1 : Int32)), .unset] [(.int (0 : Int32))])) _
            refine XS.ifYes X32.here hx rfl (pc0 := 149) (pc' := 178) rfl (hb hby at_149) rfl ((if0 _ _).trans (teq (by decide : (0 : Int32) = (0 : Int32))).1) (by decide) (by decide) ?_
            show Steps p.tables e below (T32.setTop (mkF m 178 #[.val (.long q1), .second, .val (.int p2), .val (.int (0 : Int32)), .val (.ref b1), .val (.int (0 : Int32)), .val (.int (0 : Int32)), .val (.int (1 : Int32)), .unset] [])) _
            refine XS.iload X32.here hx rfl (hb hby at_178) rfl ?_
            show Steps p.tables e below (T32.setTop (mkF m 180 #[.val (.long q1), .second, .val (.int p2), .val (.int (0 : Int32)), .val (.ref b1), .val (.int (0 : Int32)), .val (.int (0 : Int32)), .val (.int (1 : Int32)), .unset] [(.int (0 : Int32))])) _
            refine XS.ifNo X32.here hx rfl (hb hby at_180) rfl ((if0 _ _).trans (teq (by decide : (0 : Int32) = (0 : Int32))).2) ?_
            show Steps p.tables e below (T32.setTop (mkF m 183 #[.val (.long q1), .second, .val (.int p2), .val (.int (0 : Int32)), .val (.ref b1), .val (.int (0 : Int32)), .val (.int (0 : Int32)), .val (.int (1 : Int32)), .unset] [])) _
            refine XS.iconst X32.here hx rfl (hb hby at_183) ?_
            show Steps p.tables e below (T32.setTop (mkF m 184 #[.val (.long q1), .second, .val (.int p2), .val (.int (0 : Int32)), .val (.ref b1), .val (.int (0 : Int32)), .val (.int (0 : Int32)), .val (.int (1 : Int32)), .unset] [(.int (1 : Int32))])) _
            refine XS.istore X32.here hx rfl (hb hby at_184) rfl (l' := #[.val (.long q1), .second, .val (.int p2), .val (.int (0 : Int32)), .val (.ref b1), .val (.int (0 : Int32)), .val (.int (0 : Int32)), .val (.int (1 : Int32)), .val (.int (1 : Int32))]) rfl ?_
            show Steps p.tables e below (T32.setTop (mkF m 186 #[.val (.long q1), .second, .val (.int p2), .val (.int (0 : Int32)), .val (.ref b1), .val (.int (0 : Int32)), .val (.int (0 : Int32)), .val (.int (1 : Int32)), .val (.int (1 : Int32))] [])) _
            refine XS.goto X32.here hx rfl (pc0 := 186) (pc' := 214) rfl (hb hby at_186) (by decide) (by decide) ?_
            show Steps p.tables e below (T32.setTop (mkF m 214 #[.val (.long q1), .second, .val (.int p2), .val (.int (0 : Int32)), .val (.ref b1), .val (.int (0 : Int32)), .val (.int (0 : Int32)), .val (.int (1 : Int32)), .val (.int (1 : Int32))] [])) _
            refine XS.aload X32.here hx rfl (hb hby at_214) rfl rfl ?_
            show Steps p.tables e below (T32.setTop (mkF m 216 #[.val (.long q1), .second, .val (.int p2), .val (.int (0 : Int32)), .val (.ref b1), .val (.int (0 : Int32)), .val (.int (0 : Int32)), .val (.int (1 : Int32)), .val (.int (1 : Int32))] [(.ref b1)])) _
            refine XS.iloadN X32.here hx rfl (hb hby at_216) rfl ?_
            show Steps p.tables e below (T32.setTop (mkF m 217 #[.val (.long q1), .second, .val (.int p2), .val (.int (0 : Int32)), .val (.ref b1), .val (.int (0 : Int32)), .val (.int (0 : Int32)), .val (.int (1 : Int32)), .val (.int (1 : Int32))] [(.int (0 : Int32)), (.ref b1)])) _
            refine st46 _ ?_
            show Steps p.tables e below (T46.setTop (mkF m 220 #[.val (.long q1), .second, .val (.int p2), .val (.int (0 : Int32)), .val (.ref b1), .val (.int (0 : Int32)), .val (.int (0 : Int32)), .val (.int (1 : Int32)), .val (.int (1 : Int32))] [(.int (own_v0_f1 (nar .byte (own_b0 q1)) (nar .byte (own_b1 q1)) (nar .byte (own_b2 q1))))])) _
            refine XS.iload X46.here hx rfl (hb hby at_220) rfl ?_
            exact kt
          by_cases hc6 : (own_v0_f1 (nar .byte (own_b0 q1)) (nar .byte (own_b1 q1)) (nar .byte (own_b2 q1))) = (1 : Int32)
          ·
            obtain ⟨fs, hr, hrun, hended, hW, hsame⟩ := X46.leave (v := some (.int (1 : Int32))) (fun h => by rw [Bd.returns] at h; cases h)
            refine ⟨_, _, k48 _ ?_, hrun, hended, _, _, rfl, ?_, ⟨_, rfl⟩, hW, hsame.mono (by decide) (by decide)⟩
            · show Steps p.tables e below (T46.setTop (mkF m 222 #[.val (.long q1), .second, .val (.int p2), .val (.int (0 : Int32)), .val (.ref b1), .val (.int (0 : Int32)), .val (.int (0 : Int32)), .val (.int (1 : Int32)), .val (.int (1 : Int32))] [(.int (1 : Int32)), (.int (own_v0_f1 (nar .byte (own_b0 q1)) (nar .byte (own_b1 q1)) (nar .byte (own_b2 q1))))])) _
              refine XS.icmpNo X46.here hx rfl (hb hby at_222) rfl (teq hc6).2 ?_
              show Steps p.tables e below (T46.setTop (mkF m 225 #[.val (.long q1), .second, .val (.int p2), .val (.int (0 : Int32)), .val (.ref b1), .val (.int (0 : Int32)), .val (.int (0 : Int32)), .val (.int (1 : Int32)), .val (.int (1 : Int32))] [])) _
              refine XS.iconst X46.here hx rfl (hb hby at_225) ?_
              show Steps p.tables e below (T46.setTop (mkF m 226 #[.val (.long q1), .second, .val (.int p2), .val (.int (0 : Int32)), .val (.ref b1), .val (.int (0 : Int32)), .val (.int (0 : Int32)), .val (.int (1 : Int32)), .val (.int (1 : Int32))] [(.int (1 : Int32))])) _
              refine XS.goto X46.here hx rfl (pc0 := 226) (pc' := 230) rfl (hb hby at_226) (by decide) (by decide) ?_
              show Steps p.tables e below (T46.setTop (mkF m 230 #[.val (.long q1), .second, .val (.int p2), .val (.int (0 : Int32)), .val (.ref b1), .val (.int (0 : Int32)), .val (.int (0 : Int32)), .val (.int (1 : Int32)), .val (.int (1 : Int32))] [(.int (1 : Int32))])) _
              exact retN X46 hx (t := .boolean) Bd.returns (by simp) (hb hby at_230) hr
            · show own_Q0 Z q1 p2 h0 n0 _ T46.heap _
              rw [e46]
              exact ⟨(by rw [own_f0, if_pos hc1, if_pos hc2, if_pos hc3, if_neg hc4, if_pos hc6]), N47⟩
          ·
            obtain ⟨fs, hr, hrun, hended, hW, hsame⟩ := X46.leave (v := some (.int (0 : Int32))) (fun h => by rw [Bd.returns] at h; cases h)
            refine ⟨_, _, k48 _ ?_, hrun, hended, _, _, rfl, ?_, ⟨_, rfl⟩, hW, hsame.mono (by decide) (by decide)⟩
            · show Steps p.tables e below (T46.setTop (mkF m 222 #[.val (.long q1), .second, .val (.int p2), .val (.int (0 : Int32)), .val (.ref b1), .val (.int (0 : Int32)), .val (.int (0 : Int32)), .val (.int (1 : Int32)), .val (.int (1 : Int32))] [(.int (1 : Int32)), (.int (own_v0_f1 (nar .byte (own_b0 q1)) (nar .byte (own_b1 q1)) (nar .byte (own_b2 q1))))])) _
              refine XS.icmpYes X46.here hx rfl (pc0 := 222) (pc' := 229) rfl (hb hby at_222) rfl (feq hc6).2 (by decide) (by decide) ?_
              show Steps p.tables e below (T46.setTop (mkF m 229 #[.val (.long q1), .second, .val (.int p2), .val (.int (0 : Int32)), .val (.ref b1), .val (.int (0 : Int32)), .val (.int (0 : Int32)), .val (.int (1 : Int32)), .val (.int (1 : Int32))] [])) _
              refine XS.iconst X46.here hx rfl (hb hby at_229) ?_
              show Steps p.tables e below (T46.setTop (mkF m 230 #[.val (.long q1), .second, .val (.int p2), .val (.int (0 : Int32)), .val (.ref b1), .val (.int (0 : Int32)), .val (.int (0 : Int32)), .val (.int (1 : Int32)), .val (.int (1 : Int32))] [(.int (0 : Int32))])) _
              exact retN X46 hx (t := .boolean) Bd.returns (by simp) (hb hby at_230) hr
            · show own_Q0 Z q1 p2 h0 n0 _ T46.heap _
              rw [e46]
              exact ⟨(by rw [own_f0, if_pos hc1, if_pos hc2, if_pos hc3, if_neg hc4, if_neg hc6]), N47⟩
      ·
        obtain ⟨cl49, Ar49, qk49, Sz49, Nn49, Hs49, Gf49⟩ := id V_b1_32
        have hin49 : ¬ ((2 : Int32) < 0 ∨ cl49.slots.size ≤ ((2 : Int32)).toNatClampNeg) := inb_of Sz49 ⟨by decide, by decide⟩
        have hat49 : cl49.slots[((2 : Int32)).toNatClampNeg]? = some (.int (nar .byte (own_b2 q1))) := Has.at Hs49 hin49 rfl
        have k50 : ∀ t, Steps p.tables e below (T32.setTop (mkF m 137 #[.val (.long q1), .second, .val (.int p2), .val (.int (0 : Int32)), .val (.ref b1), .val (.int (0 : Int32)), .val (.int (1 : Int32)), .unset, .unset] [(.int ((nar .byte (own_b2 q1)) &&& (128 : Int32)))])) t → Steps p.tables e below (s₁.setTop (entryFrame m #[(.long q1), (.int p2)] maxLocals)) t := by
          intro t kt
          refine k40 t ?_
          show Steps p.tables e below (T32.setTop (mkF m 117 #[.val (.long q1), .second, .val (.int p2), .val (.int (0 : Int32)), .val (.ref b1), .val (.int (0 : Int32)), .unset, .unset, .unset] [(.int ((nar .byte (own_b1 q1)) &&& (128 : Int32)))])) _
          refine XS.ifNo X32.here hx rfl (hb hby at_117) rfl ((if0 _ _).trans (feq hc3).1) ?_
          show Steps p.tables e below (T32.setTop (mkF m 120 #[.val (.long q1), .second, .val (.int p2), .val (.int (0 : Int32)), .val (.ref b1), .val (.int (0 : Int32)), .unset, .unset, .unset] [])) _
          refine XS.iconst X32.here hx rfl (hb hby at_120) ?_
          show Steps p.tables e below (T32.setTop (mkF m 121 #[.val (.long q1), .second, .val (.int p2), .val (.int (0 : Int32)), .val (.ref b1), .val (.int (0 : Int32)), .unset, .unset, .unset] [(.int (1 : Int32))])) _
          refine XS.goto X32.here hx rfl (pc0 := 121) (pc' := 125) rfl (hb hby at_121) (by decide) (by decide) ?_
          show Steps p.tables e below (T32.setTop (mkF m 125 #[.val (.long q1), .second, .val (.int p2), .val (.int (0 : Int32)), .val (.ref b1), .val (.int (0 : Int32)), .unset, .unset, .unset] [(.int (1 : Int32))])) _
          refine XS.istore X32.here hx rfl (hb hby at_125) rfl (l' := #[.val (.long q1), .second, .val (.int p2), .val (.int (0 : Int32)), .val (.ref b1), .val (.int (0 : Int32)), .val (.int (1 : Int32)), .unset, .unset]) rfl ?_
          show Steps p.tables e below (T32.setTop (mkF m 127 #[.val (.long q1), .second, .val (.int p2), .val (.int (0 : Int32)), .val (.ref b1), .val (.int (0 : Int32)), .val (.int (1 : Int32)), .unset, .unset] [])) _
          refine XS.aload X32.here hx rfl (hb hby at_127) rfl rfl ?_
          show Steps p.tables e below (T32.setTop (mkF m 129 #[.val (.long q1), .second, .val (.int p2), .val (.int (0 : Int32)), .val (.ref b1), .val (.int (0 : Int32)), .val (.int (1 : Int32)), .unset, .unset] [(.ref b1)])) _
          refine XS.iloadN X32.here hx rfl (hb hby at_129) rfl ?_
          show Steps p.tables e below (T32.setTop (mkF m 130 #[.val (.long q1), .second, .val (.int p2), .val (.int (0 : Int32)), .val (.ref b1), .val (.int (0 : Int32)), .val (.int (1 : Int32)), .unset, .unset] [(.int (0 : Int32)), (.ref b1)])) _
          refine XS.iconst X32.here hx rfl (hb hby at_130) ?_
          show Steps p.tables e below (T32.setTop (mkF m 131 #[.val (.long q1), .second, .val (.int p2), .val (.int (0 : Int32)), .val (.ref b1), .val (.int (0 : Int32)), .val (.int (1 : Int32)), .unset, .unset] [(.int (2 : Int32)), (.int (0 : Int32)), (.ref b1)])) _
          refine XS.iadd X32.here hx rfl (hb hby at_131) rfl ?_
          show Steps p.tables e below (T32.setTop (mkF m 132 #[.val (.long q1), .second, .val (.int p2), .val (.int (0 : Int32)), .val (.ref b1), .val (.int (0 : Int32)), .val (.int (1 : Int32)), .unset, .unset] [(.int (2 : Int32)), (.ref b1)])) _
          refine X32.baloadBytes hx (j := (2 : Int32)) (v := (.int (nar .byte (own_b2 q1)))) (by rw [e32]; exact Ar49.1) (State.isArrayOf_alike hZ.alike Ar49.2.1) Ar49.2.2 hin49 hat49 (g := (mkF m 132 #[.val (.long q1), .second, .val (.int p2), .val (.int (0 : Int32)), .val (.ref b1), .val (.int (0 : Int32)), .val (.int (1 : Int32)), .unset, .unset] [(.int (2 : Int32)), (.ref b1)])) rfl rfl (hb hby at_132) _ ?_
          show Steps p.tables e below (T32.setTop (mkF m 133 #[.val (.long q1), .second, .val (.int p2), .val (.int (0 : Int32)), .val (.ref b1), .val (.int (0 : Int32)), .val (.int (1 : Int32)), .unset, .unset] [(.int (nar .byte (own_b2 q1)))])) _
          refine XS.sipush X32.here hx rfl (hb hby at_133) ?_
          show Steps p.tables e below (T32.setTop (mkF m 136 #[.val (.long q1), .second, .val (.int p2), .val (.int (0 : Int32)), .val (.ref b1), .val (.int (0 : Int32)), .val (.int (1 : Int32)), .unset, .unset] [(.int (128 : Int32)), (.int (nar .byte (own_b2 q1)))])) _
          refine XS.iand X32.here hx rfl (hb hby at_136) rfl ?_
          exact kt
        by_cases hc7 : ((nar .byte (own_b2 q1)) &&& (128 : Int32)) = (0 : Int32)
        ·
          obtain ⟨v51, _, ⟨T51, L51, k51, n51⟩, -, X51, ⟨Lc51, hQ51, l51, y51, z51⟩, st51⟩ := Jvm.LawKit.callS X32 hx (y := (⟨"com/example/castd/castd/mqtt/VariableByteInteger", "length", "([BI)I"⟩ : MethodName)) hown (mvT hZ (hw _ (List.mem_of_getElem? (i := 1) rfl))) (mvT hZ (hw _ (List.mem_of_getElem? (i := 2) rfl))) (mvT hZ (hw _ (List.mem_of_getElem? (i := 3) rfl))) (mvT hZ (hw _ (List.mem_of_getElem? (i := 4) rfl))) (by decide) (backOf (W := 0) (own_v0_rm1 l Z a0 hw [] b1 k1 (nar .byte (own_b0 q1)) (nar .byte (own_b1 q1)) (nar .byte (own_b2 q1)) (nar .byte (own_b3 q1)) (nar .byte (own_b4 q1)) (nar .byte (own_b5 q1)) (nar .byte (own_b6 q1)) (nar .byte (own_b7 q1)) h32 n0 Z34 V_b1_32 (by intro h1 h2 h3; first | contradiction | exact own_clr _)) hZ (hw _ (List.mem_of_getElem? (i := 4) rfl)) (hw _ (List.mem_of_getElem? (i := 3) rfl)) (by decide) (by decide)) (g := (mkF m 217 #[.val (.long q1), .second, .val (.int p2), .val (.int (0 : Int32)), .val (.ref b1), .val (.int (0 : Int32)), .val (.int (1 : Int32)), .val (.int (0 : Int32)), .val (.int (1 : Int32))] [(.int (0 : Int32)), (.ref b1)])) rfl (by rw [hml]; rfl) (argsL := [(.ref b1), (.int (0 : Int32))]) (rest := []) (lenOf own_pd25 rfl) rfl (by show 2 * 0 + _ ≤ _; exact Nat.le_of_eq rfl) (hb hby at_217) (fun _ _ => ⟨rfl, e32, (by decide : 1 + 0 ≤ _), (by decide : 8 + 0 ≤ _)⟩)
          dsimp only [Pt.U, Pt.locs, Pt.cells, Pt.slots] at X51 l51 y51 z51 st51 hQ51
          subst l51 y51 z51
          obtain ⟨rfl, N51q, e51⟩ := hQ51
          have N52 := Fr.app N33 N51q
          have k53 : ∀ t, Steps p.tables e below (T51.setTop (mkF m 222 #[.val (.long q1), .second, .val (.int p2), .val (.int (0 : Int32)), .val (.ref b1), .val (.int (0 : Int32)), .val (.int (1 : Int32)), .val (.int (0 : Int32)), .val (.int (1 : Int32))] [(.int (1 : Int32)), (.int (own_v0_f1 (nar .byte (own_b0 q1)) (nar .byte (own_b1 q1)) (nar .byte (own_b2 q1))))])) t → Steps p.tables e below (s₁.setTop (entryFrame m #[(.long q1), (.int p2)] maxLocals)) t := by
            intro t kt
            refine k50 t ?_
            show Steps p.tables e below (T32.setTop (mkF m 137 #[.val (.long q1), .second, .val (.int p2), .val (.int (0 : Int32)), .val (.ref b1), .val (.int (0 : Int32)), .val (.int (1 : Int32)), .unset, .unset] [(.int ((nar .byte (own_b2 q1)) &&& (128 : Int32)))])) _
            refine XS.ifYes X32.here hx rfl (pc0 := 137) (pc' := 144) rfl (hb hby at_137) rfl ((if0 _ _).trans (teq hc7).1) (by decide) (by decide) ?_
            show Steps p.tables e below (T32.setTop (mkF m 144 #[.val (.long q1), .second, .val (.int p2), .val (.int (0 : Int32)), .val (.ref b1), .val (.int (0 : Int32)), .val (.int (1 : Int32)), .unset, .unset] [])) _
            refine XS.iconst X32.here hx rfl (hb hby at_144) ?_
            show Steps p.tables e below (T32.setTop (mkF m 145 #[.val (.long q1), .second, .val (.int p2), .val (.int (0 : Int32)), .val (.ref b1), .val (.int (0 : Int32)), .val (.int (1 : Int32)), .unset, .unset] [(.int (0 : Int32))])) _
            refine XS.istore X32.here hx rfl (hb hby at_145) rfl (l' := #[.val (.long q1), .second, .val (.int p2), .val (.int (0 : Int32)), .val (.ref b1), .val (.int (0 : Int32)), .val (.int (1 : Int32)), .val (.int (0 : Int32)), .unset]) rfl ?_
            show Steps p.tables e below (T32.setTop (mkF m 147 #[.val (.long q1), .second, .val (.int p2), .val (.int (0 : Int32)), .val (.ref b1), .val (.int (0 : Int32)), .val (.int (1 : Int32)), .val (.int (0 : Int32)), .unset] [])) _
            refine XS.iload X32.here hx rfl (hb hby at_147) rfl ?_
            show Steps p.tables e below (T32.setTop (mkF m 149 #[.val (.long q1), .second, .val (.int p2), .val (.int (0 : Int32)), .val (.ref b1), .val (.int (0 : Int32)), .val (.int (1 : Int32)), .val (.int (0 : Int32)), .unset] [(.int (0 : Int32))])) _
            refine XS.ifYes X32.here hx rfl (pc0 := 149) (pc' := 178) rfl (hb hby at_149) rfl ((if0 _ _).trans (teq (by decide : (0 : Int32) = (0 : Int32))).1) (by decide) (by decide) ?_
            show Steps p.tables e below (T32.setTop (mkF m 178 #[.val (.long q1), .second, .val (.int p2), .val (.int (0 : Int32)), .val (.ref b1), .val (.int (0 : Int32)), .val (.int (1 : Int32)), .val (.int (0 : Int32)), .unset] [])) _
            refine XS.iload X32.here hx rfl (hb hby at_178) rfl ?_
            show Steps p.tables e below (T32.setTop (mkF m 180 #[.val (.long q1), .second, .val (.int p2), .val (.int (0 : Int32)), .val (.ref b1), .val (.int (0 : Int32)), .val (.int (1 : Int32)), .val (.int (0 : Int32)), .unset] [(.int (0 : Int32))])) _
            refine XS.ifNo X32.here hx rfl (hb hby at_180) rfl ((if0 _ _).trans (teq (by decide : (0 : Int32) = (0 : Int32))).2) ?_
            show Steps p.tables e below (T32.setTop (mkF m 183 #[.val (.long q1), .second, .val (.int p2), .val (.int (0 : Int32)), .val (.ref b1), .val (.int (0 : Int32)), .val (.int (1 : Int32)), .val (.int (0 : Int32)), .unset] [])) _
            refine XS.iconst X32.here hx rfl (hb hby at_183) ?_
            show Steps p.tables e below (T32.setTop (mkF m 184 #[.val (.long q1), .second, .val (.int p2), .val (.int (0 : Int32)), .val (.ref b1), .val (.int (0 : Int32)), .val (.int (1 : Int32)), .val (.int (0 : Int32)), .unset] [(.int (1 : Int32))])) _
            refine XS.istore X32.here hx rfl (hb hby at_184) rfl (l' := #[.val (.long q1), .second, .val (.int p2), .val (.int (0 : Int32)), .val (.ref b1), .val (.int (0 : Int32)), .val (.int (1 : Int32)), .val (.int (0 : Int32)), .val (.int (1 : Int32))]) rfl ?_
            show Steps p.tables e below (T32.setTop (mkF m 186 #[.val (.long q1), .second, .val (.int p2), .val (.int (0 : Int32)), .val (.ref b1), .val (.int (0 : Int32)), .val (.int (1 : Int32)), .val (.int (0 : Int32)), .val (.int (1 : Int32))] [])) _
            refine XS.goto X32.here hx rfl (pc0 := 186) (pc' := 214) rfl (hb hby at_186) (by decide) (by decide) ?_
            show Steps p.tables e below (T32.setTop (mkF m 214 #[.val (.long q1), .second, .val (.int p2), .val (.int (0 : Int32)), .val (.ref b1), .val (.int (0 : Int32)), .val (.int (1 : Int32)), .val (.int (0 : Int32)), .val (.int (1 : Int32))] [])) _
            refine XS.aload X32.here hx rfl (hb hby at_214) rfl rfl ?_
            show Steps p.tables e below (T32.setTop (mkF m 216 #[.val (.long q1), .second, .val (.int p2), .val (.int (0 : Int32)), .val (.ref b1), .val (.int (0 : Int32)), .val (.int (1 : Int32)), .val (.int (0 : Int32)), .val (.int (1 : Int32))] [(.ref b1)])) _
            refine XS.iloadN X32.here hx rfl (hb hby at_216) rfl ?_
            show Steps p.tables e below (T32.setTop (mkF m 217 #[.val (.long q1), .second, .val (.int p2), .val (.int (0 : Int32)), .val (.ref b1), .val (.int (0 : Int32)), .val (.int (1 : Int32)), .val (.int (0 : Int32)), .val (.int (1 : Int32))] [(.int (0 : Int32)), (.ref b1)])) _
            refine st51 _ ?_
            show Steps p.tables e below (T51.setTop (mkF m 220 #[.val (.long q1), .second, .val (.int p2), .val (.int (0 : Int32)), .val (.ref b1), .val (.int (0 : Int32)), .val (.int (1 : Int32)), .val (.int (0 : Int32)), .val (.int (1 : Int32))] [(.int (own_v0_f1 (nar .byte (own_b0 q1)) (nar .byte (own_b1 q1)) (nar .byte (own_b2 q1))))])) _
            refine XS.iload X51.here hx rfl (hb hby at_220) rfl ?_
            exact kt
          by_cases hc8 : (own_v0_f1 (nar .byte (own_b0 q1)) (nar .byte (own_b1 q1)) (nar .byte (own_b2 q1))) = (1 : Int32)
          ·
            obtain ⟨fs, hr, hrun, hended, hW, hsame⟩ := X51.leave (v := some (.int (1 : Int32))) (fun h => by rw [Bd.returns] at h; cases h)
            refine ⟨_, _, k53 _ ?_, hrun, hended, _, _, rfl, ?_, ⟨_, rfl⟩, hW, hsame.mono (by decide) (by decide)⟩
            · show Steps p.tables e below (T51.setTop (mkF m 222 #[.val (.long q1), .second, .val (.int p2), .val (.int (0 : Int32)), .val (.ref b1), .val (.int (0 : Int32)), .val (.int (1 : Int32)), .val (.int (0 : Int32)), .val (.int (1 : Int32))] [(.int (1 : Int32)), (.int (own_v0_f1 (nar .byte (own_b0 q1)) (nar .byte (own_b1 q1)) (nar .byte (own_b2 q1))))])) _
              refine XS.icmpNo X51.here hx rfl (hb hby at_222) rfl (teq hc8).2 ?_
              show Steps p.tables e below (T51.setTop (mkF m 225 #[.val (.long q1), .second, .val (.int p2), .val (.int (0 : Int32)), .val (.ref b1), .val (.int (0 : Int32)), .val (.int (1 : Int32)), .val (.int (0 : Int32)), .val (.int (1 : Int32))] [])) _
              refine XS.iconst X51.here hx rfl (hb hby at_225) ?_
              show Steps p.tables e below (T51.setTop (mkF m 226 #[.val (.long q1), .second, .val (.int p2), .val (.int (0 : Int32)), .val (.ref b1), .val (.int (0 : Int32)), .val (.int (1 : Int32)), .val (.int (0 : Int32)), .val (.int (1 : Int32))] [(.int (1 : Int32))])) _
              refine XS.goto X51.here hx rfl (pc0 := 226) (pc' := 230) rfl (hb hby at_226) (by decide) (by decide) ?_
              show Steps p.tables e below (T51.setTop (mkF m 230 #[.val (.long q1), .second, .val (.int p2), .val (.int (0 : Int32)), .val (.ref b1), .val (.int (0 : Int32)), .val (.int (1 : Int32)), .val (.int (0 : Int32)), .val (.int (1 : Int32))] [(.int (1 : Int32))])) _
              exact retN X51 hx (t := .boolean) Bd.returns (by simp) (hb hby at_230) hr
            · show own_Q0 Z q1 p2 h0 n0 _ T51.heap _
              rw [e51]
              exact ⟨(by rw [own_f0, if_pos hc1, if_pos hc2, if_neg hc3, if_pos hc7, if_pos hc8]), N52⟩
          ·
            obtain ⟨fs, hr, hrun, hended, hW, hsame⟩ := X51.leave (v := some (.int (0 : Int32))) (fun h => by rw [Bd.returns] at h; cases h)
            refine ⟨_, _, k53 _ ?_, hrun, hended, _, _, rfl, ?_, ⟨_, rfl⟩, hW, hsame.mono (by decide) (by decide)⟩
            · show Steps p.tables e below (T51.setTop (mkF m 222 #[.val (.long q1), .second, .val (.int p2), .val (.int (0 : Int32)), .val (.ref b1), .val (.int (0 : Int32)), .val (.int (1 : Int32)), .val (.int (0 : Int32)), .val (.int (1 : Int32))] [(.int (1 : Int32)), (.int (own_v0_f1 (nar .byte (own_b0 q1)) (nar .byte (own_b1 q1)) (nar .byte (own_b2 q1))))])) _
              refine XS.icmpYes X51.here hx rfl (pc0 := 222) (pc' := 229) rfl (hb hby at_222) rfl (feq hc8).2 (by decide) (by decide) ?_
              show Steps p.tables e below (T51.setTop (mkF m 229 #[.val (.long q1), .second, .val (.int p2), .val (.int (0 : Int32)), .val (.ref b1), .val (.int (0 : Int32)), .val (.int (1 : Int32)), .val (.int (0 : Int32)), .val (.int (1 : Int32))] [])) _
              refine XS.iconst X51.here hx rfl (hb hby at_229) ?_
              show Steps p.tables e below (T51.setTop (mkF m 230 #[.val (.long q1), .second, .val (.int p2), .val (.int (0 : Int32)), .val (.ref b1), .val (.int (0 : Int32)), .val (.int (1 : Int32)), .val (.int (0 : Int32)), .val (.int (1 : Int32))] [(.int (0 : Int32))])) _
              exact retN X51 hx (t := .boolean) Bd.returns (by simp) (hb hby at_230) hr
            · show own_Q0 Z q1 p2 h0 n0 _ T51.heap _
              rw [e51]
              exact ⟨(by rw [own_f0, if_pos hc1, if_pos hc2, if_neg hc3, if_pos hc7, if_neg hc8]), N52⟩
        ·
          obtain ⟨v54, _, ⟨T54, L54, k54, n54⟩, -, X54, ⟨Lc54, hQ54, l54, y54, z54⟩, st54⟩ := Jvm.LawKit.callS X32 hx (y := (⟨"com/example/castd/castd/mqtt/VariableByteInteger", "length", "([BI)I"⟩ : MethodName)) hown (mvT hZ (hw _ (List.mem_of_getElem? (i := 1) rfl))) (mvT hZ (hw _ (List.mem_of_getElem? (i := 2) rfl))) (mvT hZ (hw _ (List.mem_of_getElem? (i := 3) rfl))) (mvT hZ (hw _ (List.mem_of_getElem? (i := 4) rfl))) (by decide) (backOf (W := 0) (own_v0_rm1 l Z a0 hw [] b1 k1 (nar .byte (own_b0 q1)) (nar .byte (own_b1 q1)) (nar .byte (own_b2 q1)) (nar .byte (own_b3 q1)) (nar .byte (own_b4 q1)) (nar .byte (own_b5 q1)) (nar .byte (own_b6 q1)) (nar .byte (own_b7 q1)) h32 n0 Z34 V_b1_32 (by intro h1 h2 h3; first | contradiction | exact own_clr _)) hZ (hw _ (List.mem_of_getElem? (i := 4) rfl)) (hw _ (List.mem_of_getElem? (i := 3) rfl)) (by decide) (by decide)) (g := (mkF m 217 #[.val (.long q1), .second, .val (.int p2), .val (.int (0 : Int32)), .val (.ref b1), .val (.int (0 : Int32)), .val (.int (1 : Int32)), .val (.int (1 : Int32)), .val (.int (1 : Int32))] [(.int (0 : Int32)), (.ref b1)])) rfl (by rw [hml]; rfl) (argsL := [(.ref b1), (.int (0 : Int32))]) (rest := []) (lenOf own_pd25 rfl) rfl (by show 2 * 0 + _ ≤ _; exact Nat.le_of_eq rfl) (hb hby at_217) (fun _ _ => ⟨rfl, e32, (by decide : 1 + 0 ≤ _), (by decide : 8 + 0 ≤ _)⟩)
          dsimp only [Pt.U, Pt.locs, Pt.cells, Pt.slots] at X54 l54 y54 z54 st54 hQ54
          subst l54 y54 z54
          obtain ⟨rfl, N54q, e54⟩ := hQ54
          have N55 := Fr.app N33 N54q
          have k56 : ∀ t, Steps p.tables e below (T54.setTop (mkF m 222 #[.val (.long q1), .second, .val (.int p2), .val (.int (0 : Int32)), .val (.ref b1), .val (.int (0 : Int32)), .val (.int (1 : Int32)), .val (.int (1 : Int32)), .val (.int (1 : Int32))] [(.int (1 : Int32)), (.int (own_v0_f1 (nar .byte (own_b0 q1)) (nar .byte (own_b1 q1)) (nar .byte (own_b2 q1))))])) t → Steps p.tables e below (s₁.setTop (entryFrame m #[(.long q1), (.int p2)] maxLocals)) t := by
            intro t kt
            refine k50 t ?_
            show Steps p.tables e below (T32.setTop (mkF m 137 #[.val (.long q1), .second, .val (.int p2), .val (.int (0 : Int32)), .val (.ref b1), .val (.int (0 : Int32)), .val (.int (1 : Int32)), .unset, .unset] [(.int ((nar .byte (own_b2 q1)) &&& (128 : Int32)))])) _
            refine XS.ifNo X32.here hx rfl (hb hby at_137) rfl ((if0 _ _).trans (feq hc7).1) ?_
            show Steps p.tables e below (T32.setTop (mkF m 140 #[.val (.long q1), .second, .val (.int p2), .val (.int (0 : Int32)), .val (.ref b1), .val (.int (0 : Int32)), .val (.int (1 : Int32)), .unset, .unset] [])) _
            refine XS.iconst X32.here hx rfl (hb hby at_140) ?_
            show Steps p.tables e below (T32.setTop (mkF m 141 #[.val (.long q1), .second, .val (.int p2), .val (.int (0 : Int32)), .val (.ref b1), .val (.int (0 : Int32)), .val (.int (1 : Int32)), .unset, .unset] [(.int (1 : Int32))])) _
            refine XS.goto X32.here hx rfl (pc0 := 141) (pc' := 145) rfl (hb hby at_141) (by decide) (by decide) ?_
            show Steps p.tables e below (T32.setTop (mkF m 145 #[.val (.long q1), .second, .val (.int p2), .val (.int (0 : Int32)), .val (.ref b1), .val (.int (0 : Int32)), .val (.int (1 : Int32)), .unset, .unset] [(.int (1 : Int32))])) _
            refine XS.istore X32.here hx rfl (hb hby at_145) rfl (l' := #[.val (.long q1), .second, .val (.int p2), .val (.int (0 : Int32)), .val (.ref b1), .val (.int (0 : Int32)), .val (.int (1 : Int32)), .val (.int (1 : Int32)), .unset]) rfl ?_
            show Steps p.tables e below (T32.setTop (mkF m 147 #[.val (.long q1), .second, .val (.int p2), .val (.int (0 : Int32)), .val (.ref b1), .val (.int (0 : Int32)), .val (.int (1 : Int32)), .val (.int (1 : Int32)), .unset] [])) _
            refine XS.iload X32.here hx rfl (hb hby at_147) rfl ?_
            show Steps p.tables e below (T32.setTop (mkF m 149 #[.val (.long q1), .second, .val (.int p2), .val (.int (0 : Int32)), .val (.ref b1), .val (.int (0 : Int32)), .val (.int (1 : Int32)), .val (.int (1 : Int32)), .unset] [(.int (0 : Int32))])) _
            refine XS.ifYes X32.here hx rfl (pc0 := 149) (pc' := 178) rfl (hb hby at_149) rfl ((if0 _ _).trans (teq (by decide : (0 : Int32) = (0 : Int32))).1) (by decide) (by decide) ?_
            show Steps p.tables e below (T32.setTop (mkF m 178 #[.val (.long q1), .second, .val (.int p2), .val (.int (0 : Int32)), .val (.ref b1), .val (.int (0 : Int32)), .val (.int (1 : Int32)), .val (.int (1 : Int32)), .unset] [])) _
            refine XS.iload X32.here hx rfl (hb hby at_178) rfl ?_
            show Steps p.tables e below (T32.setTop (mkF m 180 #[.val (.long q1), .second, .val (.int p2), .val (.int (0 : Int32)), .val (.ref b1), .val (.int (0 : Int32)), .val (.int (1 : Int32)), .val (.int (1 : Int32)), .unset] [(.int (0 : Int32))])) _
            refine XS.ifNo X32.here hx rfl (hb hby at_180) rfl ((if0 _ _).trans (teq (by decide : (0 : Int32) = (0 : Int32))).2) ?_
            show Steps p.tables e below (T32.setTop (mkF m 183 #[.val (.long q1), .second, .val (.int p2), .val (.int (0 : Int32)), .val (.ref b1), .val (.int (0 : Int32)), .val (.int (1 : Int32)), .val (.int (1 : Int32)), .unset] [])) _
            refine XS.iconst X32.here hx rfl (hb hby at_183) ?_
            show Steps p.tables e below (T32.setTop (mkF m 184 #[.val (.long q1), .second, .val (.int p2), .val (.int (0 : Int32)), .val (.ref b1), .val (.int (0 : Int32)), .val (.int (1 : Int32)), .val (.int (1 : Int32)), .unset] [(.int (1 : Int32))])) _
            refine XS.istore X32.here hx rfl (hb hby at_184) rfl (l' := #[.val (.long q1), .second, .val (.int p2), .val (.int (0 : Int32)), .val (.ref b1), .val (.int (0 : Int32)), .val (.int (1 : Int32)), .val (.int (1 : Int32)), .val (.int (1 : Int32))]) rfl ?_
            show Steps p.tables e below (T32.setTop (mkF m 186 #[.val (.long q1), .second, .val (.int p2), .val (.int (0 : Int32)), .val (.ref b1), .val (.int (0 : Int32)), .val (.int (1 : Int32)), .val (.int (1 : Int32)), .val (.int (1 : Int32))] [])) _
            refine XS.goto X32.here hx rfl (pc0 := 186) (pc' := 214) rfl (hb hby at_186) (by decide) (by decide) ?_
            show Steps p.tables e below (T32.setTop (mkF m 214 #[.val (.long q1), .second, .val (.int p2), .val (.int (0 : Int32)), .val (.ref b1), .val (.int (0 : Int32)), .val (.int (1 : Int32)), .val (.int (1 : Int32)), .val (.int (1 : Int32))] [])) _
            refine XS.aload X32.here hx rfl (hb hby at_214) rfl rfl ?_
            show Steps p.tables e below (T32.setTop (mkF m 216 #[.val (.long q1), .second, .val (.int p2), .val (.int (0 : Int32)), .val (.ref b1), .val (.int (0 : Int32)), .val (.int (1 : Int32)), .val (.int (1 : Int32)), .val (.int (1 : Int32))] [(.ref b1)])) _
            refine XS.iloadN X32.here hx rfl (hb hby at_216) rfl ?_
            show Steps p.tables e below (T32.setTop (mkF m 217 #[.val (.long q1), .second, .val (.int p2), .val (.int (0 : Int32)), .val (.ref b1), .val (.int (0 : Int32)), .val (.int (1 : Int32)), .val (.int (1 : Int32)), .val (.int (1 : Int32))] [(.int (0 : Int32)), (.ref b1)])) _
            refine st54 _ ?_
            show Steps p.tables e below (T54.setTop (mkF m 220 #[.val (.long q1), .second, .val (.int p2), .val (.int (0 : Int32)), .val (.ref b1), .val (.int (0 : Int32)), .val (.int (1 : Int32)), .val (.int (1 : Int32)), .val (.int (1 : Int32))] [(.int (own_v0_f1 (nar .byte (own_b0 q1)) (nar .byte (own_b1 q1)) (nar .byte (own_b2 q1))))])) _
            refine XS.iload X54.here hx rfl (hb hby at_220) rfl ?_
            exact kt
          by_cases hc9 : (own_v0_f1 (nar .byte (own_b0 q1)) (nar .byte (own_b1 q1)) (nar .byte (own_b2 q1))) = (1 : Int32)
          ·
            obtain ⟨fs, hr, hrun, hended, hW, hsame⟩ := X54.leave (v := some (.int (1 : Int32))) (fun h => by rw [Bd.returns] at h; cases h)
            refine ⟨_, _, k56 _ ?_, hrun, hended, _, _, rfl, ?_, ⟨_, rfl⟩, hW, hsame.mono (by decide) (by decide)⟩
            · show Steps p.tables e below (T54.setTop (mkF m 222 #[.val (.long q1), .second, .val (.int p2), .val (.int (0 : Int32)), .val (.ref b1), .val (.int (0 : Int32)), .val (.int (1 : Int32)), .val (.int (1 : Int32)), .val (.int (1 : Int32))] [(.int (1 : Int32)), (.int (own_v0_f1 (nar .byte (own_b0 q1)) (nar .byte (own_b1 q1)) (nar .byte (own_b2 q1))))])) _
              refine XS.icmpNo X54.here hx rfl (hb hby at_222) rfl (teq hc9).2 ?_
              show Steps p.tables e below (T54.setTop (mkF m 225 #[.val (.long q1), .second, .val (.int p2), .val (.int (0 : Int32)), .val (.ref b1), .val (.int (0 : Int32)), .val (.int (1 : Int32)), .val (.int (1 : Int32)), .val (.int (1 : Int32))] [])) _
              refine XS.iconst X54.here hx rfl (hb hby at_225) ?_
              show Steps p.tables e below (T54.setTop (mkF m 226 #[.val (.long q1), .second, .val (.int p2), .val (.int (0 : Int32)), .val (.ref b1), .val (.int (0 : Int32)), .val (.int (1 : Int32)), .val (.int (1 : Int32)), .val (.int (1 : Int32))] [(.int (1 : Int32))])) _
              refine XS.goto X54.here hx rfl (pc0 := 226) (pc' := 230) rfl (hb hby at_226) (by decide) (by decide) ?_
              show Steps p.tables e below (T54.setTop (mkF m 230 #[.val (.long q1), .second, .val (.int p2), .val (.int (0 : Int32)), .val (.ref b1), .val (.int (0 : Int32)), .val (.int (1 : Int32)), .val (.int (1 : Int32)), .val (.int (1 : Int32))] [(.int (1 : Int32))])) _
              exact retN X54 hx (t := .boolean) Bd.returns (by simp) (hb hby at_230) hr
            · show own_Q0 Z q1 p2 h0 n0 _ T54.heap _
              rw [e54]
              exact ⟨(by rw [own_f0, if_pos hc1, if_pos hc2, if_neg hc3, if_neg hc7, if_pos hc9]), N55⟩
          ·
            obtain ⟨fs, hr, hrun, hended, hW, hsame⟩ := X54.leave (v := some (.int (0 : Int32))) (fun h => by rw [Bd.returns] at h; cases h)
            refine ⟨_, _, k56 _ ?_, hrun, hended, _, _, rfl, ?_, ⟨_, rfl⟩, hW, hsame.mono (by decide) (by decide)⟩
            · show Steps p.tables e below (T54.setTop (mkF m 222 #[.val (.long q1), .second, .val (.int p2), .val (.int (0 : Int32)), .val (.ref b1), .val (.int (0 : Int32)), .val (.int (1 : Int32)), .val (.int (1 : Int32)), .val (.int (1 : Int32))] [(.int (1 : Int32)), (.int (own_v0_f1 (nar .byte (own_b0 q1)) (nar .byte (own_b1 q1)) (nar .byte (own_b2 q1))))])) _
              refine XS.icmpYes X54.here hx rfl (pc0 := 222) (pc' := 229) rfl (hb hby at_222) rfl (feq hc9).2 (by decide) (by decide) ?_
              show Steps p.tables e below (T54.setTop (mkF m 229 #[.val (.long q1), .second, .val (.int p2), .val (.int (0 : Int32)), .val (.ref b1), .val (.int (0 : Int32)), .val (.int (1 : Int32)), .val (.int (1 : Int32)), .val (.int (1 : Int32))] [])) _
              refine XS.iconst X54.here hx rfl (hb hby at_229) ?_
              show Steps p.tables e below (T54.setTop (mkF m 230 #[.val (.long q1), .second, .val (.int p2), .val (.int (0 : Int32)), .val (.ref b1), .val (.int (0 : Int32)), .val (.int (1 : Int32)), .val (.int (1 : Int32)), .val (.int (1 : Int32))] [(.int (0 : Int32))])) _
              exact retN X54 hx (t := .boolean) Bd.returns (by simp) (hb hby at_230) hr
            · show own_Q0 Z q1 p2 h0 n0 _ T54.heap _
              rw [e54]
              exact ⟨(by rw [own_f0, if_pos hc1, if_pos hc2, if_neg hc3, if_neg hc7, if_neg hc9]), N55⟩
    ·
      obtain ⟨cl57, Ar57, qk57, Sz57, Nn57, Hs57, Gf57⟩ := id V_b1_32
      have hin57 : ¬ ((1 : Int32) < 0 ∨ cl57.slots.size ≤ ((1 : Int32)).toNatClampNeg) := inb_of Sz57 ⟨by decide, by decide⟩
      have hat57 : cl57.slots[((1 : Int32)).toNatClampNeg]? = some (.int (nar .byte (own_b1 q1))) := Has.at Hs57 hin57 rfl
      have k58 : ∀ t, Steps p.tables e below (T32.setTop (mkF m 117 #[.val (.long q1), .second, .val (.int p2), .val (.int (0 : Int32)), .val (.ref b1), .val (.int (1 : Int32)), .unset, .unset, .unset] [(.int ((nar .byte (own_b1 q1)) &&& (128 : Int32)))])) t → Steps p.tables e below (s₁.setTop (entryFrame m #[(.long q1), (.int p2)] maxLocals)) t := by
        intro t kt
        refine k38 t ?_
        show Steps p.tables e below (T32.setTop (mkF m 97 #[.val (.long q1), .second, .val (.int p2), .val (.int (0 : Int32)), .val (.ref b1), .unset, .unset, .unset, .unset] [(.int ((nar .byte (own_b0 q1)) &&& (128 : Int32)))])) _
        refine XS.ifNo X32.here hx rfl (hb hby at_97) rfl ((if0 _ _).trans (feq hc2).1) ?_
        show Steps p.tables e below (T32.setTop (mkF m 100 #[.val (.long q1), .second, .val (.int p2), .val (.int (0 : Int32)), .val (.ref b1), .unset, .unset, .unset, .unset] [])) _
        refine XS.iconst X32.here hx rfl (hb hby at_100) ?_
        show Steps p.tables e below (T32.setTop (mkF m 101 #[.val (.long q1), .second, .val (.int p2), .val (.int (0 : Int32)), .val (.ref b1), .unset, .unset, .unset, .unset] [(.int (1 : Int32))])) _
        refine XS.goto X32.here hx rfl (pc0 := 101) (pc' := 105) rfl (hb hby at_101) (by decide) (by decide) ?_
        show Steps p.tables e below (T32.setTop (mkF m 105 #[.val (.long q1), .second, .val (.int p2), .val (.int (0 : Int32)), .val (.ref b1), .unset, .unset, .unset, .unset] [(.int (1 : Int32))])) _
        refine XS.istore X32.here hx rfl (hb hby at_105) rfl (l' := #[.val (.long q1), .second, .val (.int p2), .val (.int (0 : Int32)), .val (.ref b1), .val (.int (1 : Int32)), .unset, .unset, .unset]) rfl ?_
        show Steps p.tables e below (T32.setTop (mkF m 107 #[.val (.long q1), .second, .val (.int p2), .val (.int (0 : Int32)), .val (.ref b1), .val (.int (1 : Int32)), .unset, .unset, .unset] [])) _
        refine XS.aload X32.here hx rfl (hb hby at_107) rfl rfl ?_
        show Steps p.tables e below (T32.setTop (mkF m 109 #[.val (.long q1), .second, .val (.int p2), .val (.int (0 : Int32)), .val (.ref b1), .val (.int (1 : Int32)), .unset, .unset, .unset] [(.ref b1)])) _
        refine XS.iloadN X32.here hx rfl (hb hby at_109) rfl ?_
        show Steps p.tables e below (T32.setTop (mkF m 110 #[.val (.long q1), .second, .val (.int p2), .val (.int (0 : Int32)), .val (.ref b1), .val (.int (1 : Int32)), .unset, .unset, .unset] [(.int (0 : Int32)), (.ref b1)])) _
        refine XS.iconst X32.here hx rfl (hb hby at_110) ?_
        show Steps p.tables e below (T32.setTop (mkF m 111 #[.val (.long q1), .second, .val (.int p2), .val (.int (0 : Int32)), .val (.ref b1), .val (.int (1 : Int32)), .unset, .unset, .unset] [(.int (1 : Int32)), (.int (0 : Int32)), (.ref b1)])) _
        refine XS.iadd X32.here hx rfl (hb hby at_111) rfl ?_
        show Steps p.tables e below (T32.setTop (mkF m 112 #[.val (.long q1), .second, .val (.int p2), .val (.int (0 : Int32)), .val (.ref b1), .val (.int (1 : Int32)), .unset, .unset, .unset] [(.int (1 : Int32)), (.ref b1)])) _
        refine X32.baloadBytes hx (j := (1 : Int32)) (v := (.int (nar .byte (own_b1 q1)))) (by rw [e32]; exact Ar57.1) (State.isArrayOf_alike hZ.alike Ar57.2.1) Ar57.2.2 hin57 hat57 (g := (mkF m 112 #[.val (.long q1), .second, .val (.int p2), .val (.int (0 : Int32)), .val (.ref b1), .val (.int (1 : Int32)), .unset, .unset, .unset] [(.int (1 : Int32)), (.ref b1)])) rfl rfl (hb hby at_112) _ ?_
        show Steps p.tables e below (T32.setTop (mkF m 113 #[.val (.long q1), .second, .val (.int p2), .val (.int (0 : Int32)), .val (.ref b1), .val (.int (1 : Int32)), .unset, .unset, .unset] [(.int (nar .byte (own_b1 q1)))])) _
        refine XS.sipush X32.here hx rfl (hb hby at_113) ?_
        show Steps p.tables e below (T32.setTop (mkF m 116 #[.val (.long q1), .second, .val (.int p2), .val (.int (0 : Int32)), .val (.ref b1), .val (.int (1 : Int32)), .unset, .unset, .unset] [(.int (128 : Int32)), (.int (nar .byte (own_b1 q1)))])) _
        refine XS.iand X32.here hx rfl (hb hby at_116) rfl ?_
        exact kt
      by_cases hc10 : ((nar .byte (own_b1 q1)) &&& (128 : Int32)) = (0 : Int32)
      ·
        obtain ⟨cl59, Ar59, qk59, Sz59, Nn59, Hs59, Gf59⟩ := id V_b1_32
        have hin59 : ¬ ((2 : Int32) < 0 ∨ cl59.slots.size ≤ ((2 : Int32)).toNatClampNeg) := inb_of Sz59 ⟨by decide, by decide⟩
        have hat59 : cl59.slots[((2 : Int32)).toNatClampNeg]? = some (.int (nar .byte (own_b2 q1))) := Has.at Hs59 hin59 rfl
        have k60 : ∀ t, Steps p.tables e below (T32.setTop (mkF m 137 #[.val (.long q1), .second, .val (.int p2), .val (.int (0 : Int32)), .val (.ref b1), .val (.int (1 : Int32)), .val (.int (0 : Int32)), .unset, .unset] [(.int ((nar .byte (own_b2 q1)) &&& (128 : Int32)))])) t → Steps p.tables e below (s₁.setTop (entryFrame m #[(.long q1), (.int p2)] maxLocals)) t := by
          intro t kt
          refine k58 t ?_
          show Steps p.tables e below (T32.setTop (mkF m 117 #[.val (.long q1), .second, .val (.int p2), .val (.int (0 : Int32)), .val (.ref b1), .val (.int (1 : Int32)), .unset, .unset, .unset] [(.int ((nar .byte (own_b1 q1)) &&& (128 : Int32)))])) _
          refine XS.ifYes X32.here hx rfl (pc0 := 117) (pc' := 124) rfl (hb hby at_117) rfl ((if0 _ _).trans (teq hc10).1) (by decide) (by decide) ?_
          show Steps p.tables e below (T32.setTop (mkF m 124 #[.val (.long q1), .second, .val (.int p2), .val (.int (0 : Int32)), .val (.ref b1), .val (.int (1 : Int32)), .unset, .unset, .unset] [])) _
          refine XS.iconst X32.here hx rfl (hb hby at_124) ?_
          show Steps p.tables e below (T32.setTop (mkF m 125 #[.val (.long q1), .second, .val (.int p2), .val (.int (0 : Int32)), .val (.ref b1), .val (.int (1 : Int32)), .unset, .unset, .unset] [(.int (0 : Int32))])) _
          refine XS.istore X32.here hx rfl (hb hby at_125) rfl (l' := #[.val (.long q1), .second, .val (.int p2), .val (.int (0 : Int32)), .val (.ref b1), .val (.int (1 : Int32)), .val (.int (0 : Int32)), .unset, .unset]) rfl ?_
          show Steps p.tables e below (T32.setTop (mkF m 127 #[.val (.long q1), .second, .val (.int p2), .val (.int (0 : Int32)), .val (.ref b1), .val (.int (1 : Int32)), .val (.int (0 : Int32)), .unset, .unset] [])) _
          refine XS.aload X32.here hx rfl (hb hby at_127) rfl rfl ?_
          show Steps p.tables e below (T32.setTop (mkF m 129 #[.val (.long q1), .second, .val (.int p2), .val (.int (0 : Int32)), .val (.ref b1), .val (.int (1 : Int32)), .val (.int (0 : Int32)), .unset, .unset] [(.ref b1)])) _
          refine XS.iloadN X32.here hx rfl (hb hby at_129) rfl ?_
          show Steps p.tables e below (T32.setTop (mkF m 130 #[.val (.long q1), .second, .val (.int p2), .val (.int (0 : Int32)), .val (.ref b1), .val (.int (1 : Int32)), .val (.int (0 : Int32)), .unset, .unset] [(.int (0 : Int32)), (.ref b1)])) _
          refine XS.iconst X32.here hx rfl (hb hby at_130) ?_
          show Steps p.tables e below (T32.setTop (mkF m 131 #[.val (.long q1), .second, .val (.int p2), .val (.int (0 : Int32)), .val (.ref b1), .val (.int (1 : Int32)), .val (.int (0 : Int32)), .unset, .unset] [(.int (2 : Int32)), (.int (0 : Int32)), (.ref b1)])) _
          refine XS.iadd X32.here hx rfl (hb hby at_131) rfl ?_
          show Steps p.tables e below (T32.setTop (mkF m 132 #[.val (.long q1), .second, .val (.int p2), .val (.int (0 : Int32)), .val (.ref b1), .val (.int (1 : Int32)), .val (.int (0 : Int32)), .unset, .unset] [(.int (2 : Int32)), (.ref b1)])) _
          refine X32.baloadBytes hx (j := (2 : Int32)) (v := (.int (nar .byte (own_b2 q1)))) (by rw [e32]; exact Ar59.1) (State.isArrayOf_alike hZ.alike Ar59.2.1) Ar59.2.2 hin59 hat59 (g := (mkF m 132 #[.val (.long q1), .second, .val (.int p2), .val (.int (0 : Int32)), .val (.ref b1), .val (.int (1 : Int32)), .val (.int (0 : Int32)), .unset, .unset] [(.int (2 : Int32)), (.ref b1)])) rfl rfl (hb hby at_132) _ ?_
          show Steps p.tables e below (T32.setTop (mkF m 133 #[.val (.long q1), .second, .val (.int p2), .val (.int (0 : Int32)), .val (.ref b1), .val (.int (1 : Int32)), .val (.int (0 : Int32)), .unset, .unset] [(.int (nar .byte (own_b2 q1)))])) _
          refine XS.sipush X32.here hx rfl (hb hby at_133) ?_
          show Steps p.tables e below (T32.setTop (mkF m 136 #[.val (.long q1), .second, .val (.int p2), .val (.int (0 : Int32)), .val (.ref b1), .val (.int (1 : Int32)), .val (.int (0 : Int32)), .unset, .unset] [(.int (128 : Int32)), (.int (nar .byte (own_b2 q1)))])) _
          refine XS.iand X32.here hx rfl (hb hby at_136) rfl ?_
          exact kt
        by_cases hc11 : ((nar .byte (own_b2 q1)) &&& (128 : Int32)) = (0 : Int32)
        ·
          obtain ⟨v61, _, ⟨T61, L61, k61, n61⟩, -, X61, ⟨Lc61, hQ61, l61, y61, z61⟩, st61⟩ := Jvm.LawKit.callS X32 hx (y := (⟨"com/example/castd/castd/mqtt/VariableByteInteger", "length", "([BI)I"⟩ : MethodName)) hown (mvT hZ (hw _ (List.mem_of_getElem? (i := 1) rfl))) (mvT hZ (hw _ (List.mem_of_getElem? (i := 2) rfl))) (mvT hZ (hw _ (List.mem_of_getElem? (i := 3) rfl))) (mvT hZ (hw _ (List.mem_of_getElem? (i := 4) rfl))) (by decide) (backOf (W := 0) (own_v0_rm1 l Z a0 hw [] b1 k1 (nar .byte (own_b0 q1)) (nar .byte (own_b1 q1)) (nar .byte (own_b2 q1)) (nar .byte (own_b3 q1)) (nar .byte (own_b4 q1)) (nar .byte (own_b5 q1)) (nar .byte (own_b6 q1)) (nar .byte (own_b7 q1)) h32 n0 Z34 V_b1_32 (by intro h1 h2 h3; first | contradiction | exact own_clr _)) hZ (hw _ (List.mem_of_getElem? (i := 4) rfl)) (hw _ (List.mem_of_getElem? (i := 3) rfl)) (by decide) (by decide)) (g := (mkF m 217 #[.val (.long q1), .second, .val (.int p2), .val (.int (0 : Int32)), .val (.ref b1), .val (.int (1 : Int32)), .val (.int (0 : Int32)), .val (.int (0 : Int32)), .val (.int (2 : Int32))] [(.int (0 : Int32)), (.ref b1)])) rfl (by rw [hml]; rfl) (argsL := [(.ref b1), (.int (0 : Int32))]) (rest := []) (lenOf own_pd25 rfl) rfl (by show 2 * 0 + _ ≤ _; exact Nat.le_of_eq rfl) (hb hby at_217) (fun _ _ => ⟨rfl, e32, (by decide : 1 + 0 ≤ _), (by decide : 8 + 0 ≤ _)⟩)
          dsimp only [Pt.U, Pt.locs, Pt.cells, Pt.slots] at X61 l61 y61 z61 st61 hQ61
          subst l61 y61 z61
          obtain ⟨rfl, N61q, e61⟩ := hQ61
          have N62 := Fr.app N33 N61q
          have k63 : ∀ t, Steps p.tables e below (T61.setTop (mkF m 222 #[.val (.long q1), .second, .val (.int p2), .val (.int (0 : Int32)), .val (.ref b1), .val (.int (1 : Int32)), .val (.int (0 : Int32)), .val (.int (0 : Int32)), .val (.int (2 : Int32))] [(.int (2 : Int32)), (.int (own_v0_f1 (nar .byte (own_b0 q1)) (nar .byte (own_b1 q1)) (nar .byte (own_b2 q1))))])) t → Steps p.tables e below (s₁.setTop (entryFrame m #[(.long q1), (.int p2)] maxLocals)) t := by
            intro t kt
            refine k60 t ?_
            show Steps p.tables e below (T32.setTop (mkF m 137 #[.val (.long q1), .second, .val (.int p2), .val (.int (0 : Int32)), .val (.ref b1), .val (.int (1 : Int32)), .val (.int (0 : Int32)), .unset, .unset] [(.int ((nar .byte (own_b2 q1)) &&& (128 : Int32)))])) _
            refine XS.ifYes X32.here hx rfl (pc0 := 137) (pc' := 144) rfl (hb hby at_137) rfl ((if0 _ _).trans (teq hc11).1) (by decide) (by decide) ?_
            show Steps p.tables e below (T32.setTop (mkF m 144 #[.val (.long q1), .second, .val (.int p2), .val (.int (0 : Int32)), .val (.ref b1), .val (.int (1 : Int32)), .val (.int (0 : Int32)), .unset, .unset] [])) _
            refine XS.iconst X32.here hx rfl (hb hby at_144) ?_
            show Steps p.tables e below (T32.setTop (mkF m 145 #[.val (.long q1), .second, .val (.int p2), .val (.int (0 : Int32)), .val (.ref b1), .val (.int (1 : Int32)), .val (.int (0 : Int32)), .unset, .unset] [(.int (0 : Int32))])) _
            refine XS.istore X32.here hx rfl (hb hby at_145) rfl (l' := #[.val (.long q1), .second, .val (.int p2), .val (.int (0 : Int32)), .val (.ref b1), .val (.int (1 : Int32)), .val (.int (0 : Int32)), .val (.int (0 : Int32)), .unset]) rfl ?_
            show Steps p.tables e below (T32.setTop (mkF m 147 #[.val (.long q1), .second, .val (.int p2), .val (.int (0 : Int32)), .val (.ref b1), .val (.int (1 : Int32)), .val (.int (0 : Int32)), .val (.int (0 : Int32)), .unset] [])) _
            refine XS.iload X32.here hx rfl (hb hby at_147) rfl ?_
            show Steps p.tables e below (T32.setTop (mkF m 149 #[.val (.long q1), .second, .val (.int p2), .val (.int (0 : Int32)), .val (.ref b1), .val (.int (1 : Int32)), .val (.int (0 : Int32)), .val (.int (0 : Int32)), .unset] [(.int (1 : Int32))])) _
            refine XS.ifNo X32.here hx rfl (hb hby at_149) rfl ((if0 _ _).trans (feq (by decide : ¬ ((1 : Int32) = (0 : Int32)))).1) ?_
            show Steps p.tables e below (T32.setTop (mkF m 152 #[.val (.long q1), .second, .val (.int p2), .val (.int (0 : Int32)), .val (.ref b1), .val (.int (1 : Int32)), .val (.int (0 : Int32)), .val (.int (0 : Int32)), .unset] [])) _
            refine XS.iload X32.here hx rfl (hb hby at_152) rfl ?_
            show Steps p.tables e below (T32.setTop (mkF m 154 #[.val (.long q1), .second, .val (.int p2), .val (.int (0 : Int32)), .val (.ref b1), .val (.int (1 : Int32)), .val (.int (0 : Int32)), .val (.int (0 : Int32)), .unset] [(.int (0 : Int32))])) _
            refine XS.ifYes X32.here hx rfl (pc0 := 154) (pc' := 178) rfl (hb hby at_154) rfl ((if0 _ _).trans (teq (by decide : (0 : Int32) = (0 : Int32))).1) (by decide) (by decide) ?_
            show Steps p.tables e below (T32.setTop (mkF m 178 #[.val (.long q1), .second, .val (.int p2), .val (.int (0 : Int32)), .val (.ref b1), .val (.int (1 : Int32)), .val (.int (0 : Int32)), .val (.int (0 : Int32)), .unset] [])) _
            refine XS.iload X32.here hx rfl (hb hby at_178) rfl ?_
            show Steps p.tables e below (T32.setTop (mkF m 180 #[.val (.long q1), .second, .val (.int p2), .val (.int (0 : Int32)), .val (.ref b1), .val (.int (1 : Int32)), .val (.int (0 : Int32)), .val (.int (0 : Int32)), .unset] [(.int (1 : Int32))])) _
            refine XS.ifYes X32.here hx rfl (pc0 := 180) (pc' := 189) rfl (hb hby at_180) rfl ((if0 _ _).trans (feq (by decide : ¬ ((1 : Int32) = (0 : Int32)))).2) (by decide) (by decide) ?_
            show Steps p.tables e below (T32.setTop (mkF m 189 #[.val (.long q1), .second, .val (.int p2), .val (.int (0 : Int32)), .val (.ref b1), .val (.int (1 : Int32)), .val (.int (0 : Int32)), .val (.int (0 : Int32)), .unset] [])) _
            refine XS.iload X32.here hx rfl (hb hby at_189) rfl ?_
            show Steps p.tables e below (T32.setTop (mkF m 191 #[.val (.long q1), .second, .val (.int p2), .val (.int (0 : Int32)), .val (.ref b1), .val (.int (1 : Int32)), .val (.int (0 : Int32)), .val (.int (0 : Int32)), .unset] [(.int (0 : Int32))])) _
            refine XS.ifNo X32.here hx rfl (hb hby at_191) rfl ((if0 _ _).trans (teq (by decide : (0 : Int32) = (0 : Int32))).2) ?_
            show Steps p.tables e below (T32.setTop (mkF m 194 #[.val (.long q1), .second, .val (.int p2), .val (.int (0 : Int32)), .val (.ref b1), .val (.int (1 : Int32)), .val (.int (0 : Int32)), .val (.int (0 : Int32)), .unset] [])) _
            refine XS.iconst X32.here hx rfl (hb hby at_194) ?_
            show Steps p.tables e below (T32.setTop (mkF m 195 #[.val (.long q1), .second, .val (.int p2), .val (.int (0 : Int32)), .val (.ref b1), .val (.int (1 : Int32)), .val (.int (0 : Int32)), .val (.int (0 : Int32)), .unset] [(.int (2 : Int32))])) _
            refine XS.istore X32.here hx rfl (hb hby at_195) rfl (l' := #[.val (.long q1), .second, .val (.int p2), .val (.int (0 : Int32)), .val (.ref b1), .val (.int (1 : Int32)), .val (.int (0 : Int32)), .val (.int (0 : Int32)), .val (.int (2 : Int32))]) rfl ?_
            show Steps p.tables e below (T32.setTop (mkF m 197 #[.val (.long q1), .second, .val (.int p2), .val (.int (0 : Int32)), .val (.ref b1), .val (.int (1 : Int32)), .val (.int (0 : Int32)), .val (.int (0 : Int32)), .val (.int (2 : Int32))] [])) _
            refine XS.goto X32.here hx rfl (pc0 := 197) (pc' := 214) rfl (hb hby at_197) (by decide) (by decide) ?_
            show Steps p.tables e below (T32.setTop (mkF m 214 #[.val (.long q1), .second, .val (.int p2), .val (.int (0 : Int32)), .val (.ref b1), .val (.int (1 : Int32)), .val (.int (0 : Int32)), .val (.int (0 : Int32)), .val (.int (2 : Int32))] [])) _
            refine XS.aload X32.here hx rfl (hb hby at_214) rfl rfl ?_
            show Steps p.tables e below (T32.setTop (mkF m 216 #[.val (.long q1), .second, .val (.int p2), .val (.int (0 : Int32)), .val (.ref b1), .val (.int (1 : Int32)), .val (.int (0 : Int32)), .val (.int (0 : Int32)), .val (.int (2 : Int32))] [(.ref b1)])) _
            refine XS.iloadN X32.here hx rfl (hb hby at_216) rfl ?_
            show Steps p.tables e below (T32.setTop (mkF m 217 #[.val (.long q1), .second, .val (.int p2), .val (.int (0 : Int32)), .val (.ref b1), .val (.int (1 : Int32)), .val (.int (0 : Int32)), .val (.int (0 : Int32)), .val (.int (2 : Int32))] [(.int (0 : Int32)), (.ref b1)])) _
            refine st61 _ ?_
            show Steps p.tables e below (T61.setTop (mkF m 220 #[.val (.long q1), .second, .val (.int p2), .val (.int (0 : Int32)), .val (.ref b1), .val (.int (1 : Int32)), .val (.int (0 : Int32)), .val (.int (0 : Int32)), .val (.int (2 : Int32))] [(.int (own_v0_f1 (nar .byte (own_b0 q1)) (nar .byte (own_b1 q1)) (nar .byte (own_b2 q1))))])) _
            refine XS.iload X61.here hx rfl (hb hby at_220) rfl ?_
            exact kt
          by_cases hc12 : (own_v0_f1 (nar .byte (own_b0 q1)) (nar .byte (own_b1 q1)) (nar .byte (own_b2 q1))) = (2 : Int32)
          ·
            obtain ⟨fs, hr, hrun, hended, hW, hsame⟩ := X61.leave (v := some (.int (1 : Int32))) (fun h => by rw [Bd.returns] at h; cases h)
            refine ⟨_, _, k63 _ ?_, hrun, hended, _, _, rfl, ?_, ⟨_, rfl⟩, hW, hsame.mono (by decide) (by decide)⟩
            · show Steps p.tables e below (T61.setTop (mkF m 222 #[.val (.long q1), .second, .val (.int p2), .val (.int (0 : Int32)), .val (.ref b1), .val (.int (1 : Int32)), .val (.int (0 : Int32)), .val (.int (0 : Int32)), .val (.int (2 : Int32))] [(.int (2 : Int32)), (.int (own_v0_f1 (nar .byte (own_b0 q1)) (nar .byte (own_b1 q1)) (nar .byte (own_b2 q1))))])) _
              refine XS.icmpNo X61.here hx rfl (hb hby at_222) rfl (teq hc12).2 ?_
              show Steps p.tables e below (T61.setTop (mkF m 225 #[.val (.long q1), .second, .val (.int p2), .val (.int (0 : Int32)), .val (.ref b1), .val (.int (1 : Int32)), .val (.int (0 : Int32)), .val (.int (0 : Int32)), .val (.int (2 : Int32))] [])) _
              refine XS.iconst X61.here hx rfl (hb hby at_225) ?_
              show Steps p.tables e below (T61.setTop (mkF m 226 #[.val (.long q1), .second, .val (.int p2), .val (.int (0 : Int32)), .val (.ref b1), .val (.int (1 : Int32)), .val (.int (0 : Int32)), .val (.int (0 : Int32)), .val (.int (2 : Int32))] [(.int (1 : Int32))])) _
              refine XS.goto X61.here hx rfl (pc0 := 226) (pc' := 230) rfl (hb hby at_226) (by decide) (by decide) ?_
              show Steps p.tables e below (T61.setTop (mkF m 230 #[.val (.long q1), .second, .val (.int p2), .val (.int (0 : Int32)), .val (.ref b1), .val (.int (1 : Int32)), .val (.int (0 : Int32)), .val (.int (0 : Int32)), .val (.int (2 : Int32))] [(.int (1 : Int32))])) _
              exact retN X61 hx (t := .boolean) Bd.returns (by simp) (hb hby at_230) hr
            · show own_Q0 Z q1 p2 h0 n0 _ T61.heap _
              rw [e61]
              exact ⟨(by rw [own_f0, if_pos hc1, if_neg hc2, if_pos hc10, if_pos hc11, if_pos hc12]), N62⟩
          ·
            obtain ⟨fs, hr, hrun, hended, hW, hsame⟩ := X61.leave (v := some (.int (0 : Int32))) (fun h => by rw [Bd.returns] at h; cases h)
            refine ⟨_, _, k63 _ ?_, hrun, hended, _, _, rfl, ?_, ⟨_, rfl⟩, hW, hsame.mono (by decide) (by decide)⟩
            · show Steps p.tables e below (T61.setTop (mkF m 222 #[.val (.long q1), .second, .val (.int p2), .val (.int (0 : Int32)), .val (.ref b1), .val (.int (1 : Int32)), .val (.int (0 : Int32)), .val (.int (0 : Int32)), .val (.int (2 : Int32))] [(.int (2 : Int32)), (.int (own_v0_f1 (nar .byte (own_b0 q1)) (nar .byte (own_b1 q1)) (nar .byte (own_b2 q1))))])) _
              refine XS.icmpYes X61.here hx rfl (pc0 := 222) (pc' := 229) rfl (hb hby at_222) rfl (feq hc12).2 (by decide) (by decide) ?_
              show Steps p.tables e below (T61.setTop (mkF m 229 #[.val (.long q1), .second, .val (.int p2), .val (.int (0 : Int32)), .val (.ref b1), .val (.int (1 : Int32)), .val (.int (0 : Int32)), .val (.int (0 : Int32)), .val (.int (2 : Int32))] [])) _
              refine XS.iconst X61.here hx rfl (hb hby at_229) ?_
              show Steps p.tables e below (T61.setTop (mkF m 230 #[.val (.long q1), .second, .val (.int p2), .val (.int (0 : Int32)), .val (.ref b1), .val (.int (1 : Int32)), .val (.int (0 : Int32)), .val (.int (0 : Int32)), .val (.int (2 : Int32))] [(.int (0 : Int32))])) _
              exact retN X61 hx (t := .boolean) Bd.returns (by simp) (hb hby at_230) hr
            · show own_Q0 Z q1 p2 h0 n0 _ T61.heap _
              rw [e61]
              exact ⟨(by rw [own_f0, if_pos hc1, if_neg hc2, if_pos hc10, if_pos hc11, if_neg hc12]), N62⟩
        ·
          obtain ⟨v64, _, ⟨T64, L64, k64, n64⟩, -, X64, ⟨Lc64, hQ64, l64, y64, z64⟩, st64⟩ := Jvm.LawKit.callS X32 hx (y := (⟨"com/example/castd/castd/mqtt/VariableByteInteger", "length", "([BI)I"⟩ : MethodName)) hown (mvT hZ (hw _ (List.mem_of_getElem? (i := 1) rfl))) (mvT hZ (hw _ (List.mem_of_getElem? (i := 2) rfl))) (mvT hZ (hw _ (List.mem_of_getElem? (i := 3) rfl))) (mvT hZ (hw _ (List.mem_of_getElem? (i := 4) rfl))) (by decide) (backOf (W := 0) (own_v0_rm1 l Z a0 hw [] b1 k1 (nar .byte (own_b0 q1)) (nar .byte (own_b1 q1)) (nar .byte (own_b2 q1)) (nar .byte (own_b3 q1)) (nar .byte (own_b4 q1)) (nar .byte (own_b5 q1)) (nar .byte (own_b6 q1)) (nar .byte (own_b7 q1)) h32 n0 Z34 V_b1_32 (by intro h1 h2 h3; first | contradiction | exact own_clr _)) hZ (hw _ (List.mem_of_getElem? (i := 4) rfl)) (hw _ (List.mem_of_getElem? (i := 3) rfl)) (by decide) (by decide)) (g := (mkF m 217 #[.val (.long q1), .second, .val (.int p2), .val (.int (0 : Int32)), .val (.ref b1), .val (.int (1 : Int32)), .val (.int (0 : Int32)), .val (.int (1 : Int32)), .val (.int (2 : Int32))] [(.int (0 : Int32)), (.ref b1)])) rfl (by rw [hml]; rfl) (argsL := [(.ref b1), (.int (0 : Int32))]) (rest := []) (lenOf own_pd25 rfl) rfl (by show 2 * 0 + _ ≤ _; exact Nat.le_of_eq rfl) (hb hby at_217) (fun _ _ => ⟨rfl, e32, (by decide : 1 + 0 ≤ _), (by decide : 8 + 0 ≤ _)⟩)
          dsimp only [Pt.U, Pt.locs, Pt.cells, Pt.slots] at X64 l64 y64 z64 st64 hQ64
          subst l64 y64 z64
          obtain ⟨rfl, N64q, e64⟩ := hQ64
          have N65 := Fr.app N33 N64q
          have k66 : ∀ t, Steps p.tables e below (T64.setTop (mkF m 222 #[.val (.long q1), .second, .val (.int p2), .val (.int (0 : Int32)), .val (.ref b1), .val (.int (1 : Int32)), .val (.int (0 : Int32)), .val (.int (1 : Int32)), .val (.int (2 : Int32))] [(.int (2 : Int32)), (.int (own_v0_f1 (nar .byte (own_b0 q1)) (nar .byte (own_b1 q1)) (nar .byte (own_b2 q1))))])) t → Steps p.tables e below (s₁.setTop (entryFrame m #[(.long q1), (.int p2)] maxLocals)) t := by
            intro t kt
            refine k60 t ?_
            show Steps p.tables e below (T32.setTop (mkF m 137 #[.val (.long q1), .second, .val (.int p2), .val (.int (0 : Int32)), .val (.ref b1), .val (.int (1 : Int32)), .val (.int (0 : Int32)), .unset, .unset] [(.int ((nar .byte (own_b2 q1)) &&& (128 : Int32)))])) _
            refine XS.ifNo X32.here hx rfl (hb hby at_137) rfl ((if0 _ _).trans (feq hc11).1) ?_
            show Steps p.tables e below (T32.setTop (mkF m 140 #[.val (.long q1), .second, .val (.int p2), .val (.int (0 : Int32)), .val (.ref b1), .val (.int (1 : Int32)), .val (.int (0 : Int32)), .unset, .unset] [])) _
            refine XS.iconst X32.here hx rfl (hb hby at_140) ?_
            show Steps p.tables e below (T32.setTop (mkF m 141 #[.val (.long q1), .second, .val (.int p2), .val (.int (0 : Int32)), .val (.ref b1), .val (.int (1 : Int32)), .val (.int (0 : Int32)), .unset, .unset] [(.int (1 : Int32))])) _
            refine XS.goto X32.here hx rfl (pc0 := 141) (pc' := 145) rfl (hb hby at_141) (by decide) (by decide) ?_
            show Steps p.tables e below (T32.setTop (mkF m 145 #[.val (.long q1), .second, .val (.int p2), .val (.int (0 : Int32)), .val (.ref b1), .val (.int (1 : Int32)), .val (.int (0 : Int32)), .unset, .unset] [(.int (1 : Int32))])) _
            refine XS.istore X32.here hx rfl (hb hby at_145) rfl (l' := #[.val (.long q1), .second, .val (.int p2), .val (.int (0 : Int32)), .val (.ref b1), .val (.int (1 : Int32)), .val (.int (0 : Int32)), .val (.int (1 : Int32)), .unset]) rfl ?_
            show Steps p.tables e below (T32.setTop (mkF m 147 #[.val (.long q1), .second, .val (.int p2), .val (.int (0 : Int32)), .val (.ref b1), .val (.int (1 : Int32)), .val (.int (0 : Int32)), .val (.int (1 : Int32)), .unset] [])) _
            refine XS.iload X32.here hx rfl (hb hby at_147) rfl ?_
            show Steps p.tables e below (T32.setTop (mkF m 149 #[.val (.long q1), .second, .val (.int p2), .val (.int (0 : Int32)), .val (.ref b1), .val (.int (1 : Int32)), .val (.int (0 : Int32)), .val (.int (1 : Int32)), .unset] [(.int (1 : Int32))])) _
            refine XS.ifNo X32.here hx rfl (hb hby at_149) rfl ((if0 _ _).trans (feq (by decide : ¬ ((1 : Int32) = (0 : Int32)))).1) ?_
            show Steps p.tables e below (T32.setTop (mkF m 152 #[.val (.long q1), .second, .val (.int p2), .val (.int (0 : Int32)), .val (.ref b1), .val (.int (1 : Int32)), .val (.int (0 : Int32)), .val (.int (1 : Int32)), .unset] [])) _
            refine XS.iload X32.here hx rfl (hb hby at_152) rfl ?_
            show Steps p.tables e below (T32.setTop (mkF m 154 #[.val (.long q1), .second, .val (.int p2), .val (.int (0 : Int32)), .val (.ref b1), .val (.int (1 : Int32)), .val (.int (0 : Int32)), .val (.int (1 : Int32)), .unset] [(.int (0 : Int32))])) _
            refine XS.ifYes X32.here hx rfl (pc0 := 154) (pc' := 178) rfl (hb hby at_154) rfl ((if0 _ _).trans (teq (by decide : (0 : Int32) = (0 : Int32))).1) (by decide) (by decide) ?_
            show Steps p.tables e below (T32.setTop (mkF m 178 #[.val (.long q1), .second, .val (.int p2), .val (.int (0 : Int32)), .val (.ref b1), .val (.int (1 : Int32)), .val (.int (0 : Int32)), .val (.int (1 : Int32)), .unset] [])) _
            refine XS.iload X32.here hx rfl (hb hby at_178) rfl ?_
            show Steps p.tables e below (T32.setTop (mkF m 180 #[.val (.long q1), .second, .val (.int p2), .val (.int (0 : Int32)), .val (.ref b1), .val (.int (1 : Int32)), .val (.int (0 : Int32)), .val (.int (1 : Int32)), .unset] [(.int (1 : Int32))])) _
            refine XS.ifYes X32.here hx rfl (pc0 := 180) (pc' := 189) rfl (hb hby at_180) rfl ((if0 _ _).trans (feq (by decide : ¬ ((1 : Int32) = (0 : Int32)))).2) (by decide) (by decide) ?_
            show Steps p.tables e below (T32.setTop (mkF m 189 #[.val (.long q1), .second, .val (.int p2), .val (.int (0 : Int32)), .val (.ref b1), .val (.int (1 : Int32)), .val (.int (0 : Int32)), .val (.int (1 : Int32)), .unset] [])) _
            refine XS.iload X32.here hx rfl (hb hby at_189) rfl ?_
            show Steps p.tables e below (T32.setTop (mkF m 191 #[.val (.long q1), .second, .val (.int p2), .val (.int (0 : Int32)), .val (.ref b1), .val (.int (1 : Int32)), .val (.int (0 : Int32)), .val (.int (1 : Int32)), .unset] [(.int (0 : Int32))])) _
            refine XS.ifNo X32.here hx rfl (hb hby at_191) rfl ((if0 _ _).trans (teq (by decide : (0 : Int32) = (0 : Int32))).2) ?_
            show Steps p.tables e below (T32.setTop (mkF m 194 #[.val (.long q1), .second, .val (.int p2), .val (.int (0 : Int32)), .val (.ref b1), .val (.int (1 : Int32)), .val (.int (0 : Int32)), .val (.int (1 : Int32)), .unset] [])) _
            refine XS.iconst X32.here hx rfl (hb hby at_194) ?_
            show Steps p.tables e below (T32.setTop (mkF m 195 #[.val (.long q1), .second, .val (.int p2), .val (.int (0 : Int32)), .val (.ref b1), .val (.int (1 : Int32)), .val (.int (0 : Int32)), .val (.int (1 : Int32)), .unset] [(.int (2 : Int32))])) _
            refine XS.istore X32.here hx rfl (hb hby at_195) rfl (l' := #[.val (.long q1), .second, .val (.int p2), .val (.int (0 : Int32)), .val (.ref b1), .val (.int (1 : Int32)), .val (.int (0 : Int32)), .val (.int (1 : Int32)), .val (.int (2 : Int32))]) rfl ?_
            show Steps p.tables e below (T32.setTop (mkF m 197 #[.val (.long q1), .second, .val (.int p2), .val (.int (0 : Int32)), .val (.ref b1), .val (.int (1 : Int32)), .val (.int (0 : Int32)), .val (.int (1 : Int32)), .val (.int (2 : Int32))] [])) _
            refine XS.goto X32.here hx rfl (pc0 := 197) (pc' := 214) rfl (hb hby at_197) (by decide) (by decide) ?_
            show Steps p.tables e below (T32.setTop (mkF m 214 #[.val (.long q1), .second, .val (.int p2), .val (.int (0 : Int32)), .val (.ref b1), .val (.int (1 : Int32)), .val (.int (0 : Int32)), .val (.int (1 : Int32)), .val (.int (2 : Int32))] [])) _
            refine XS.aload X32.here hx rfl (hb hby at_214) rfl rfl ?_
            show Steps p.tables e below (T32.setTop (mkF m 216 #[.val (.long q1), .second, .val (.int p2), .val (.int (0 : Int32)), .val (.ref b1), .val (.int (1 : Int32)), .val (.int (0 : Int32)), .val (.int (1 : Int32)), .val (.int (2 : Int32))] [(.ref b1)])) _
            refine XS.iloadN X32.here hx rfl (hb hby at_216) rfl ?_
            show Steps p.tables e below (T32.setTop (mkF m 217 #[.val (.long q1), .second, .val (.int p2), .val (.int (0 : Int32)), .val (.ref b1), .val (.int (1 : Int32)), .val (.int (0 : Int32)), .val (.int (1 : Int32)), .val (.int (2 : Int32))] [(.int (0 : Int32)), (.ref b1)])) _
            refine st64 _ ?_
            show Steps p.tables e below (T64.setTop (mkF m 220 #[.val (.long q1), .second, .val (.int p2), .val (.int (0 : Int32)), .val (.ref b1), .val (.int (1 : Int32)), .val (.int (0 : Int32)), .val (.int (1 : Int32)), .val (.int (2 : Int32))] [(.int (own_v0_f1 (nar .byte (own_b0 q1)) (nar .byte (own_b1 q1)) (nar .byte (own_b2 q1))))])) _
            refine XS.iload X64.here hx rfl (hb hby at_220) rfl ?_
            exact kt
          by_cases hc13 : (own_v0_f1 (nar .byte (own_b0 q1)) (nar .byte (own_b1 q1)) (nar .byte (own_b2 q1))) = (2 : Int32)
          ·
            obtain ⟨fs, hr, hrun, hended, hW, hsame⟩ := X64.leave (v := some (.int (1 : Int32))) (fun h => by rw [Bd.returns] at h; cases h)
            refine ⟨_, _, k66 _ ?_, hrun, hended, _, _, rfl, ?_, ⟨_, rfl⟩, hW, hsame.mono (by decide) (by decide)⟩
            · show Steps p.tables e below (T64.setTop (mkF m 222 #[.val (.long q1), .second, .val (.int p2), .val (.int (0 : Int32)), .val (.ref b1), .val (.int (1 : Int32)), .val (.int (0 : Int32)), .val (.int (1 : Int32)), .val (.int (2 : Int32))] [(.int (2 : Int32)), (.int (own_v0_f1 (nar .byte (own_b0 q1)) (nar .byte (own_b1 q1)) (nar .byte (own_b2 q1))))])) _
              refine XS.icmpNo X64.here hx rfl (hb hby at_222) rfl (teq hc13).2 ?_
              show Steps p.tables e below (T64.setTop (mkF m 225 #[.val (.long q1), .second, .val (.int p2), .val (.int (0 : Int32)), .val (.ref b1), .val (.int (1 : Int32)), .val (.int (0 : Int32)), .val (.int (1 : Int32)), .val (.int (2 : Int32))] [])) _
              refine XS.iconst X64.here hx rfl (hb hby at_225) ?_
              show Steps p.tables e below (T64.setTop (mkF m 226 #[.val (.long q1), .second, .val (.int p2), .val (.int (0 : Int32)), .val (.ref b1), .val (.int (1 : Int32)), .val (.int (0 : Int32)), .val (.int (1 : Int32)), .val (.int (2 : Int32))] [(.int (1 : Int32))])) _
              refine XS.goto X64.here hx rfl (pc0 := 226) (pc' := 230) rfl (hb hby at_226) (by decide) (by decide) ?_
              show Steps p.tables e below (T64.setTop (mkF m 230 #[.val (.long q1), .second, .val (.int p2), .val (.int (0 : Int32)), .val (.ref b1), .val (.int (1 : Int32)), .val (.int (0 : Int32)), .val (.int (1 : Int32)), .val (.int (2 : Int32))] [(.int (1 : Int32))])) _
              exact retN X64 hx (t := .boolean) Bd.returns (by simp) (hb hby at_230) hr
            · show own_Q0 Z q1 p2 h0 n0 _ T64.heap _
              rw [e64]
              exact ⟨(by rw [own_f0, if_pos hc1, if_neg hc2, if_pos hc10, if_neg hc11, if_pos hc13]), N65⟩
          ·
            obtain ⟨fs, hr, hrun, hended, hW, hsame⟩ := X64.leave (v := some (.int (0 : Int32))) (fun h => by rw [Bd.returns] at h; cases h)
            refine ⟨_, _, k66 _ ?_, hrun, hended, _, _, rfl, ?_, ⟨_, rfl⟩, hW, hsame.mono (by decide) (by decide)⟩
            · show Steps p.tables e below (T64.setTop (mkF m 222 #[.val (.long q1), .second, .val (.int p2), .val (.int (0 : Int32)), .val (.ref b1), .val (.int (1 : Int32)), .val (.int (0 : Int32)), .val (.int (1 : Int32)), .val (.int (2 : Int32))] [(.int (2 : Int32)), (.int (own_v0_f1 (nar .byte (own_b0 q1)) (nar .byte (own_b1 q1)) (nar .byte (own_b2 q1))))])) _
              refine XS.icmpYes X64.here hx rfl (pc0 := 222) (pc' := 229) rfl (hb hby at_222) rfl (feq hc13).2 (by decide) (by decide) ?_
              show Steps p.tables e below (T64.setTop (mkF m 229 #[.val (.long q1), .second, .val (.int p2), .val (.int (0 : Int32)), .val (.ref b1), .val (.int (1 : Int32)), .val (.int (0 : Int32)), .val (.int (1 : Int32)), .val (.int (2 : Int32))] [])) _
              refine XS.iconst X64.here hx rfl (hb hby at_229) ?_
              show Steps p.tables e below (T64.setTop (mkF m 230 #[.val (.long q1), .second, .val (.int p2), .val (.int (0 : Int32)), .val (.ref b1), .val (.int (1 : Int32)), .val (.int (0 : Int32)), .val (.int (1 : Int32)), .val (.int (2 : Int32))] [(.int (0 : Int32))])) _
              exact retN X64 hx (t := .boolean) Bd.returns (by simp) (hb hby at_230) hr
            · show own_Q0 Z q1 p2 h0 n0 _ T64.heap _
              rw [e64]
              exact ⟨(by rw [own_f0, if_pos hc1, if_neg hc2, if_pos hc10, if_neg hc11, if_neg hc13]), N65⟩
      ·
        obtain ⟨cl67, Ar67, qk67, Sz67, Nn67, Hs67, Gf67⟩ := id V_b1_32
        have hin67 : ¬ ((2 : Int32) < 0 ∨ cl67.slots.size ≤ ((2 : Int32)).toNatClampNeg) := inb_of Sz67 ⟨by decide, by decide⟩
        have hat67 : cl67.slots[((2 : Int32)).toNatClampNeg]? = some (.int (nar .byte (own_b2 q1))) := Has.at Hs67 hin67 rfl
        have k68 : ∀ t, Steps p.tables e below (T32.setTop (mkF m 137 #[.val (.long q1), .second, .val (.int p2), .val (.int (0 : Int32)), .val (.ref b1), .val (.int (1 : Int32)), .val (.int (1 : Int32)), .unset, .unset] [(.int ((nar .byte (own_b2 q1)) &&& (128 : Int32)))])) t → Steps p.tables e below (s₁.setTop (entryFrame m #[(.long q1), (.int p2)] maxLocals)) t := by
          intro t kt
          refine k58 t ?_
          show Steps p.tables e below (T32.setTop (mkF m 117 #[.val (.long q1), .second, .val (.int p2), .val (.int (0 : Int32)), .val (.ref b1), .val (.int (1 : Int32)), .unset, .unset, .unset] [(.int ((nar .byte (own_b1 q1)) &&& (128 : Int32)))])) _
          refine XS.ifNo X32.here hx rfl (hb hby at_117) rfl ((if0 _ _).trans (feq hc10).1) ?_
          show Steps p.tables e below (T32.setTop (mkF m 120 #[.val (.long q1), .second, .val (.int p2), .val (.int (0 : Int32)), .val (.ref b1), .val (.int (1 : Int32)), .unset, .unset, .unset] [])) _
          refine XS.iconst X32.here hx rfl (hb hby at_120) ?_
          show Steps p.tables e below (T32.setTop (mkF m 121 #[.val (.long q1), .second, .val (.int p2), .val (.int (0 : Int32)), .val (.ref b1), .val (.int (1 : Int32)), .unset, .unset, .unset] [(.int (1 : Int32))])) _
          refine XS.goto X32.here hx rfl (pc0 := 121) (pc' := 125) rfl (hb hby at_121) (by decide) (by decide) ?_
          show Steps p.tables e below (T32.setTop (mkF m 125 #[.val (.long q1), .second, .val (.int p2), .val (.int (0 : Int32)), .val (.ref b1), .val (.int (1 : Int32)), .unset, .unset, .unset] [(.int (1 : Int32))])) _
          refine XS.istore X32.here hx rfl (hb hby at_125) rfl (l' := #[.val (.long q1), .second, .val (.int p2), .val (.int (0 : Int32)), .val (.ref b1), .val (.int (1 : Int32)), .val (.int (1 : Int32)), .unset, .unset]) rfl ?_
          show Steps p.tables e below (T32.setTop (mkF m 127 #[.val (.long q1), .second, .val (.int p2), .val (.int (0 : Int32)), .val (.ref b1), .val (.int (1 : Int32)), .val (.int (1 : Int32)), .unset, .unset] [])) _
          refine XS.aload X32.here hx rfl (hb hby at_127) rfl rfl ?_
          show Steps p.tables e below (T32.setTop (mkF m 129 #[.val (.long q1), .second, .val (.int p2), .val (.int (0 : Int32)), .val (.ref b1), .val (.int (1 : Int32)), .val (.int (1 : Int32)), .unset, .unset] [(.ref b1)])) _
          refine XS.iloadN X32.here hx rfl (hb hby at_129) rfl ?_
          show Steps p.tables e below (T32.setTop (mkF m 130 #[.val (.long q1), .second, .val (.int p2), .val (.int (0 : Int32)), .val (.ref b1), .val (.int (1 : Int32)), .val (.int (1 : Int32)), .unset, .unset] [(.int (0 : Int32)), (.ref b1)])) _
          refine XS.iconst X32.here hx rfl (hb hby at_130) ?_
          show Steps p.tables e below (T32.setTop (mkF m 131 #[.val (.long q1), .second, .val (.int p2), .val (.int (0 : Int32)), .val (.ref b1), .val (.int (1 : Int32)), .val (.int (1 : Int32)), .unset, .unset] [(.int (2 : Int32)), (.int (0 : Int32)), (.ref b1)])) _
          refine XS.iadd X32.here hx rfl (hb hby at_131) rfl ?_
          show Steps p.tables e below (T32.setTop (mkF m 132 #[.val (.long q1), .second, .val (.int p2), .val (.int (0 : Int32)), .val (.ref b1), .val (.int (1 : Int32)), .val (.int (1 : Int32)), .unset, .unset] [(.int (2 : Int32)), (.ref b1)])) _
          refine X32.baloadBytes hx (j := (2 : Int32)) (v := (.int (nar .byte (own_b2 q1)))) (by rw [e32]; exact Ar67.1) (State.isArrayOf_alike hZ.alike Ar67.2.1) Ar67.2.2 hin67 hat67 (g := (mkF m 132 #[.val (.long q1), .second, .val (.int p2), .val (.int (0 : Int32)), .val (.ref b1), .val (.int (1 : Int32)), .val (.int (1 : Int32)), .unset, .unset] [(.int (2 : Int32)), (.ref b1)])) rfl rfl (hb hby at_132) _ ?_
          show Steps p.tables e below (T32.setTop (mkF m 133 #[.val (.long q1), .second, .val (.int p2), .val (.int (0 : Int32)), .val (.ref b1), .val (.int (1 : Int32)), .val (.int (1 : Int32)), .unset, .unset] [(.int (nar .byte (own_b2 q1)))])) _
          refine XS.sipush X32.here hx rfl (hb hby at_133) ?_
          show Steps p.tables e below (T32.setTop (mkF m 136 #[.val (.long q1), .second, .val (.int p2), .val (.int (0 : Int32)), .val (.ref b1), .val (.int (1 : Int32)), .val (.int (1 : Int32)), .unset, .unset] [(.int (128 : Int32)), (.int (nar .byte (own_b2 q1)))])) _
          refine XS.iand X32.here hx rfl (hb hby at_136) rfl ?_
          exact kt
        by_cases hc14 : ((nar .byte (own_b2 q1)) &&& (128 : Int32)) = (0 : Int32)
        ·
          obtain ⟨v69, _, ⟨T69, L69, k69, n69⟩, -, X69, ⟨Lc69, hQ69, l69, y69, z69⟩, st69⟩ := Jvm.LawKit.callS X32 hx (y := (⟨"com/example/castd/castd/mqtt/VariableByteInteger", "length", "([BI)I"⟩ : MethodName)) hown (mvT hZ (hw _ (List.mem_of_getElem? (i := 1) rfl))) (mvT hZ (hw _ (List.mem_of_getElem? (i := 2) rfl))) (mvT hZ (hw _ (List.mem_of_getElem? (i := 3) rfl))) (mvT hZ (hw _ (List.mem_of_getElem? (i := 4) rfl))) (by decide) (backOf (W := 0) (own_v0_rm1 l Z a0 hw [] b1 k1 (nar .byte (own_b0 q1)) (nar .byte (own_b1 q1)) (nar .byte (own_b2 q1)) (nar .byte (own_b3 q1)) (nar .byte (own_b4 q1)) (nar .byte (own_b5 q1)) (nar .byte (own_b6 q1)) (nar .byte (own_b7 q1)) h32 n0 Z34 V_b1_32 (by intro h1 h2 h3; first | contradiction | exact own_clr _)) hZ (hw _ (List.mem_of_getElem? (i := 4) rfl)) (hw _ (List.mem_of_getElem? (i := 3) rfl)) (by decide) (by decide)) (g := (mkF m 217 #[.val (.long q1), .second, .val (.int p2), .val (.int (0 : Int32)), .val (.ref b1), .val (.int (1 : Int32)), .val (.int (1 : Int32)), .val (.int (0 : Int32)), .val (.int (3 : Int32))] [(.int (0 : Int32)), (.ref b1)])) rfl (by rw [hml]; rfl) (argsL := [(.ref b1), (.int (0 : Int32))]) (rest := []) (lenOf own_pd25 rfl) rfl (by show 2 * 0 + _ ≤ _; exact Nat.le_of_eq rfl) (hb hby at_217) (fun _ _ => ⟨rfl, e32, (by decide : 1 + 0 ≤ _), (by decide : 8 + 0 ≤ _)⟩)
          dsimp only [Pt.U, Pt.locs, Pt.cells, Pt.slots] at X69 l69 y69 z69 st69 hQ69
          subst l69 y69 z69
          obtain ⟨rfl, N69q, e69⟩ := hQ69
          have N70 := Fr.app N33 N69q
          have k71 : ∀ t, Steps p.tables e below (T69.setTop (mkF m 222 #[.val (.long q1), .second, .val (.int p2), .val (.int (0 : Int32)), .val (.ref b1), .val (.int (1 : Int32)), .val (.int (1 : Int32)), .val (.int (0 : Int32)), .val (.int (3 : Int32))] [(.int (3 : Int32)), (.int (own_v0_f1 (nar .byte (own_b0 q1)) (nar .byte (own_b1 q1)) (nar .byte (own_b2 q1))))])) t → Steps p.tables e below (s₁.setTop (entryFrame m #[(.long q1), (.int p2)] maxLocals)) t := by
            intro t kt
            refine k68 t ?_
            show Steps p.tables e below (T32.setTop (mkF m 137 #[.val (.long q1), .second, .val (.int p2), .val (.int (0 : Int32)), .val (.ref b1), .val (.int (1 : Int32)), .val (.int (1 : Int32)), .unset, .unset] [(.int ((nar .byte (own_b2 q1)) &&& (128 : Int32)))])) _
            refine XS.ifYes X32.here hx rfl (pc0 := 137) (pc' := 144) rfl (hb hby at_137) rfl ((if0 _ _).trans (teq hc14).1) (by decide) (by decide) ?_
            show Steps p.tables e below (T32.setTop (mkF m 144 #[.val (.long q1), .second, .val (.int p2), .val (.int (0 : Int32)), .val (.ref b1), .val (.int (1 : Int32)), .val (.int (1 : Int32)), .unset, .unset] [])) _
            refine XS.iconst X32.here hx rfl (hb hby at_144) ?_
            show Steps p.tables e below (T32.setTop (mkF m 145 #[.val (.long q1), .second, .val (.int p2), .val (.int (0 : Int32)), .val (.ref b1), .val (.int (1 : Int32)), .val (.int (1 : Int32)), .unset, .unset] [(.int (0 : Int32))])) _
            refine XS.istore X32.here hx rfl (hb hby at_145) rfl (l' := #[.val (.long q1), .second, .val (.int p2), .val (.int (0 : Int32)), .val (.ref b1), .val (.int (1 : Int32)), .val (.int (1 : Int32)), .val (.int (0 : Int32)), .unset]) rfl ?_
            show Steps p.tables e below (T32.setTop (mkF m 147 #[.val (.long q1), .second, .val (.int p2), .val (.int (0 : Int32)), .val (.ref b1), .val (.int (1 : Int32)), .val (.int (1 : Int32)), .val (.int (0 : Int32)), .unset] [])) _
            refine XS.iload X32.here hx rfl (hb hby at_147) rfl ?_
            show Steps p.tables e below (T32.setTop (mkF m 149 #[.val (.long q1), .second, .val (.int p2), .val (.int (0 : Int32)), .val (.ref b1), .val (.int (1 : Int32)), .val (.int (1 : Int32)), .val (.int (0 : Int32)), .unset] [(.int (1 : Int32))])) _
            refine XS.ifNo X32.here hx rfl (hb hby at_149) rfl ((if0 _ _).trans (feq (by decide : ¬ ((1 : Int32) = (0 : Int32)))).1) ?_
            show Steps p.tables e below (T32.setTop (mkF m 152 #[.val (.long q1), .second, .val (.int p2), .val (.int (0 : Int32)), .val (.ref b1), .val (.int (1 : Int32)), .val (.int (1 : Int32)), .val (.int (0 : Int32)), .unset] [])) _
            refine XS.iload X32.here hx rfl (hb hby at_152) rfl ?_
            show Steps p.tables e below (T32.setTop (mkF m 154 #[.val (.long q1), .second, .val (.int p2), .val (.int (0 : Int32)), .val (.ref b1), .val (.int (1 : Int32)), .val (.int (1 : Int32)), .val (.int (0 : Int32)), .unset] [(.int (1 : Int32))])) _
            refine XS.ifNo X32.here hx rfl (hb hby at_154) rfl ((if0 _ _).trans (feq (by decide : ¬ ((1 : Int32) = (0 : Int32)))).1) ?_
            show Steps p.tables e below (T32.setTop (mkF m 157 #[.val (.long q1), .second, .val (.int p2), .val (.int (0 : Int32)), .val (.ref b1), .val (.int (1 : Int32)), .val (.int (1 : Int32)), .val (.int (0 : Int32)), .unset] [])) _
            refine XS.iload X32.here hx rfl (hb hby at_157) rfl ?_
            show Steps p.tables e below (T32.setTop (mkF m 159 #[.val (.long q1), .second, .val (.int p2), .val (.int (0 : Int32)), .val (.ref b1), .val (.int (1 : Int32)), .val (.int (1 : Int32)), .val (.int (0 : Int32)), .unset] [(.int (0 : Int32))])) _
            refine XS.ifYes X32.here hx rfl (pc0 := 159) (pc' := 178) rfl (hb hby at_159) rfl ((if0 _ _).trans (teq (by decide : (0 : Int32) = (0 : Int32))).1) (by decide) (by decide) ?_
            show Steps p.tables e below (T32.setTop (mkF m 178 #[.val (.long q1), .second, .val (.int p2), .val (.int (0 : Int32)), .val (.ref b1), .val (.int (1 : Int32)), .val (.int (1 : Int32)), .val (.int (0 : Int32)), .unset] [])) _
            refine XS.iload X32.here hx rfl (hb hby at_178) rfl ?_
            show Steps p.tables e below (T32.setTop (mkF m 180 #[.val (.long q1), .second, .val (.int p2), .val (.int (0 : Int32)), .val (.ref b1), .val (.int (1 : Int32)), .val (.int (1 : Int32)), .val (.int (0 : Int32)), .unset] [(.int (1 : Int32))])) _
            refine XS.ifYes X32.here hx rfl (pc0 := 180) (pc' := 189) rfl (hb hby at_180) rfl ((if0 _ _).trans (feq (by decide : ¬ ((1 : Int32) = (0 : Int32)))).2) (by decide) (by decide) ?_
            show Steps p.tables e below (T32.setTop (mkF m 189 #[.val (.long q1), .second, .val (.int p2), .val (.int (0 : Int32)), .val (.ref b1), .val (.int (1 : Int32)), .val (.int (1 : Int32)), .val (.int (0 : Int32)), .unset] [])) _
            refine XS.iload X32.here hx rfl (hb hby at_189) rfl ?_
            show Steps p.tables e below (T32.setTop (mkF m 191 #[.val (.long q1), .second, .val (.int p2), .val (.int (0 : Int32)), .val (.ref b1), .val (.int (1 : Int32)), .val (.int (1 : Int32)), .val (.int (0 : Int32)), .unset] [(.int (1 : Int32))])) _
            refine XS.ifYes X32.here hx rfl (pc0 := 191) (pc' := 200) rfl (hb hby at_191) rfl ((if0 _ _).trans (feq (by decide : ¬ ((1 : Int32) = (0 : Int32)))).2) (by decide) (by decide) ?_
            show Steps p.tables e below (T32.setTop (mkF m 200 #[.val (.long q1), .second, .val (.int p2), .val (.int (0 : Int32)), .val (.ref b1), .val (.int (1 : Int32)), .val (.int (1 : Int32)), .val (.int (0 : Int32)), .unset] [])) _
            refine XS.iload X32.here hx rfl (hb hby at_200) rfl ?_
            show Steps p.tables e below (T32.setTop (mkF m 202 #[.val (.long q1), .second, .val (.int p2), .val (.int (0 : Int32)), .val (.ref b1), .val (.int (1 : Int32)), .val (.int (1 : Int32)), .val (.int (0 : Int32)), .unset] [(.int (0 : Int32))])) _
            refine XS.ifNo X32.here hx rfl (hb hby at_202) rfl ((if0 _ _).trans (teq (by decide : (0 : Int32) = (0 : Int32))).2) ?_
            show Steps p.tables e below (T32.setTop (mkF m 205 #[.val (.long q1), .second, .val (.int p2), .val (.int (0 : Int32)), .val (.ref b1), .val (.int (1 : Int32)), .val (.int (1 : Int32)), .val (.int (0 : Int32)), .unset] [])) _
            refine XS.iconst X32.here hx rfl (hb hby at_205) ?_
            show Steps p.tables e below (T32.setTop (mkF m 206 #[.val (.long q1), .second, .val (.int p2), .val (.int (0 : Int32)), .val (.ref b1), .val (.int (1 : Int32)), .val (.int (1 : Int32)), .val (.int (0 : Int32)), .unset] [(.int (3 : Int32))])) _
            refine XS.istore X32.here hx rfl (hb hby at_206) rfl (l' := #[.val (.long q1), .second, .val (.int p2), .val (.int (0 : Int32)), .val (.ref b1), .val (.int (1 : Int32)), .val (.int (1 : Int32)), .val (.int (0 : Int32)), .val (.int (3 : Int32))]) rfl ?_
            show Steps p.tables e below (T32.setTop (mkF m 208 #[.val (.long q1), .second, .val (.int p2), .val (.int (0 : Int32)), .val (.ref b1), .val (.int (1 : Int32)), .val (.int (1 : Int32)), .val (.int (0 : Int32)), .val (.int (3 : Int32))] [])) _
            refine XS.goto X32.here hx rfl (pc0 := 208) (pc' := 214) rfl (hb hby at_208) (by decide) (by decide) ?_
            show Steps p.tables e below (T32.setTop (mkF m 214 #[.val (.long q1), .second, .val (.int p2), .val (.int (0 : Int32)), .val (.ref b1), .val (.int (1 : Int32)), .val (.int (1 : Int32)), .val (.int (0 : Int32)), .val (.int (3 : Int32))] [])) _
            refine XS.aload X32.here hx rfl (hb hby at_214) rfl rfl ?_
            show Steps p.tables e below (T32.setTop (mkF m 216 #[.val (.long q1), .second, .val (.int p2), .val (.int (0 : Int32)), .val (.ref b1), .val (.int (1 : Int32)), .val (.int (1 : Int32)), .val (.int (0 : Int32)), .val (.int (3 : Int32))] [(.ref b1)])) _
            refine XS.iloadN X32.here hx rfl (hb hby at_216) rfl ?_
            show Steps p.tables e below (T32.setTop (mkF m 217 #[.val (.long q1), .second, .val (.int p2), .val (.int (0 : Int32)), .val (.ref b1), .val (.int (1 : Int32)), .val (.int (1 : Int32)), .val (.int (0 : Int32)), .val (.int (3 : Int32))] [(.int (0 : Int32)), (.ref b1)])) _
            refine st69 _ ?_
            show Steps p.tables e below (T69.setTop (mkF m 220 #[.val (.long q1), .second, .val (.int p2), .val (.int (0 : Int32)), .val (.ref b1), .val (.int (1 : Int32)), .val (.int (1 : Int32)), .val (.int (0 : Int32)), .val (.int (3 : Int32))] [(.int (own_v0_f1 (nar .byte (own_b0 q1)) (nar .byte (own_b1 q1)) (nar .byte (own_b2 q1))))])) _
            refine XS.iload X69.here hx rfl (hb hby at_220) rfl ?_
            exact kt
          by_cases hc15 : (own_v0_f1 (nar .byte (own_b0 q1)) (nar .byte (own_b1 q1)) (nar .byte (own_b2 q1))) = (3 : Int32)
          ·
            obtain ⟨fs, hr, hrun, hended, hW, hsame⟩ := X69.leave (v := some (.int (1 : Int32))) (fun h => by rw [Bd.returns] at h; cases h)
            refine ⟨_, _, k71 _ ?_, hrun, hended, _, _, rfl, ?_, ⟨_, rfl⟩, hW, hsame.mono (by decide) (by decide)⟩
            · show Steps p.tables e below (T69.setTop (mkF m 222 #[.val (.long q1), .second, .val (.int p2), .val (.int (0 : Int32)), .val (.ref b1), .val (.int (1 : Int32)), .val (.int (1 : Int32)), .val (.int (0 : Int32)), .val (.int (3 : Int32))] [(.int (3 : Int32)), (.int (own_v0_f1 (nar .byte (own_b0 q1)) (nar .byte (own_b1 q1)) (nar .byte (own_b2 q1))))])) _
              refine XS.icmpNo X69.here hx rfl (hb hby at_222) rfl (teq hc15).2 ?_
              show Steps p.tables e below (T69.setTop (mkF m 225 #[.val (.long q1), .second, .val (.int p2), .val (.int (0 : Int32)), .val (.ref b1), .val (.int (1 : Int32)), .val (.int (1 : Int32)), .val (.int (0 : Int32)), .val (.int (3 : Int32))] [])) _
              refine XS.iconst X69.here hx rfl (hb hby at_225) ?_
              show Steps p.tables e below (T69.setTop (mkF m 226 #[.val (.long q1), .second, .val (.int p2), .val (.int (0 : Int32)), .val (.ref b1), .val (.int (1 : Int32)), .val (.int (1 : Int32)), .val (.int (0 : Int32)), .val (.int (3 : Int32))] [(.int (1 : Int32))])) _
              refine XS.goto X69.here hx rfl (pc0 := 226) (pc' := 230) rfl (hb hby at_226) (by decide) (by decide) ?_
              show Steps p.tables e below (T69.setTop (mkF m 230 #[.val (.long q1), .second, .val (.int p2), .val (.int (0 : Int32)), .val (.ref b1), .val (.int (1 : Int32)), .val (.int (1 : Int32)), .val (.int (0 : Int32)), .val (.int (3 : Int32))] [(.int (1 : Int32))])) _
              exact retN X69 hx (t := .boolean) Bd.returns (by simp) (hb hby at_230) hr
            · show own_Q0 Z q1 p2 h0 n0 _ T69.heap _
              rw [e69]
              exact ⟨(by rw [own_f0, if_pos hc1, if_neg hc2, if_neg hc10, if_pos hc14, if_pos hc15]), N70⟩
          ·
            obtain ⟨fs, hr, hrun, hended, hW, hsame⟩ := X69.leave (v := some (.int (0 : Int32))) (fun h => by rw [Bd.returns] at h; cases h)
            refine ⟨_, _, k71 _ ?_, hrun, hended, _, _, rfl, ?_, ⟨_, rfl⟩, hW, hsame.mono (by decide) (by decide)⟩
            · show Steps p.tables e below (T69.setTop (mkF m 222 #[.val (.long q1), .second, .val (.int p2), .val (.int (0 : Int32)), .val (.ref b1), .val (.int (1 : Int32)), .val (.int (1 : Int32)), .val (.int (0 : Int32)), .val (.int (3 : Int32))] [(.int (3 : Int32)), (.int (own_v0_f1 (nar .byte (own_b0 q1)) (nar .byte (own_b1 q1)) (nar .byte (own_b2 q1))))])) _
              refine XS.icmpYes X69.here hx rfl (pc0 := 222) (pc' := 229) rfl (hb hby at_222) rfl (feq hc15).2 (by decide) (by decide) ?_
              show Steps p.tables e below (T69.setTop (mkF m 229 #[.val (.long q1), .second, .val (.int p2), .val (.int (0 : Int32)), .val (.ref b1), .val (.int (1 : Int32)), .val (.int (1 : Int32)), .val (.int (0 : Int32)), .val (.int (3 : Int32))] [])) _
              refine XS.iconst X69.here hx rfl (hb hby at_229) ?_
              show Steps p.tables e below (T69.setTop (mkF m 230 #[.val (.long q1), .second, .val (.int p2), .val (.int (0 : Int32)), .val (.ref b1), .val (.int (1 : Int32)), .val (.int (1 : Int32)), .val (.int (0 : Int32)), .val (.int (3 : Int32))] [(.int (0 : Int32))])) _
              exact retN X69 hx (t := .boolean) Bd.returns (by simp) (hb hby at_230) hr
            · show own_Q0 Z q1 p2 h0 n0 _ T69.heap _
              rw [e69]
              exact ⟨(by rw [own_f0, if_pos hc1, if_neg hc2, if_neg hc10, if_pos hc14, if_neg hc15]), N70⟩
        ·
          obtain ⟨cl72, Ar72, qk72, Sz72, Nn72, Hs72, Gf72⟩ := id V_b1_32
          have hin72 : ¬ ((3 : Int32) < 0 ∨ cl72.slots.size ≤ ((3 : Int32)).toNatClampNeg) := inb_of Sz72 ⟨by decide, by decide⟩
          have hat72 : cl72.slots[((3 : Int32)).toNatClampNeg]? = some (.int (nar .byte (own_b3 q1))) := Has.at Hs72 hin72 rfl
          obtain ⟨cl73, Ar73, qk73, Sz73, Nn73, Hs73, Gf73⟩ := id V_b1_32
          have hin73 : ¬ ((3 : Int32) < 0 ∨ cl73.slots.size ≤ ((3 : Int32)).toNatClampNeg) := inb_of Sz73 ⟨by decide, by decide⟩
          obtain ⟨T74, h74, X74, e74, W74, st74⟩ := stB X32 hx hZ e32 Ar73 (j := (3 : Int32)) hin73 (g := (mkF m 177 #[.val (.long q1), .second, .val (.int p2), .val (.int (0 : Int32)), .val (.ref b1), .val (.int (1 : Int32)), .val (.int (1 : Int32)), .val (.int (1 : Int32)), .unset] [(.int (((nar .byte (own_b3 q1)) &&& (127 : Int32)).toInt8.toInt32)), (.int (3 : Int32)), (.ref b1)])) rfl rfl (hb hby at_177)
          have V_b1_74 : Arv Z h74 b1 k1 .byte (8 : Int32) [(.int (nar .byte (own_b0 q1))), (.int (nar .byte (own_b1 q1))), (.int (nar .byte (own_b2 q1))), (.int (nar .byte (((nar .byte (own_b3 q1)) &&& (127 : Int32)).toInt8.toInt32))), (.int (nar .byte (own_b4 q1))), (.int (nar .byte (own_b5 q1))), (.int (nar .byte (own_b6 q1))), (.int (nar .byte (own_b7 q1)))] (.int (0 : Int32)) := Arv.set Ar73 qk73 Sz73 Nn73 Hs73 Gf73 (fits_nar_byte _) W74 3 rfl (Nat.le_of_ble_eq_true rfl)
          have N75 := Fr.snoc X74 N33 g_b1
          have Z76 := Nat.le_trans Z34 (Keep.of_wr W74).1
          obtain ⟨v77, _, ⟨T77, L77, k77, n77⟩, -, X77, ⟨Lc77, hQ77, l77, y77, z77⟩, st77⟩ := Jvm.LawKit.callS X74 hx (y := (⟨"com/example/castd/castd/mqtt/VariableByteInteger", "length", "([BI)I"⟩ : MethodName)) hown (mvT hZ (hw _ (List.mem_of_getElem? (i := 1) rfl))) (mvT hZ (hw _ (List.mem_of_getElem? (i := 2) rfl))) (mvT hZ (hw _ (List.mem_of_getElem? (i := 3) rfl))) (mvT hZ (hw _ (List.mem_of_getElem? (i := 4) rfl))) (by decide) (backOf (W := 0) (own_v0_rm1 l Z a0 hw [] b1 k1 (nar .byte (own_b0 q1)) (nar .byte (own_b1 q1)) (nar .byte (own_b2 q1)) (nar .byte (((nar .byte (own_b3 q1)) &&& (127 : Int32)).toInt8.toInt32)) (nar .byte (own_b4 q1)) (nar .byte (own_b5 q1)) (nar .byte (own_b6 q1)) (nar .byte (own_b7 q1)) h74 n0 Z76 V_b1_74 (by intro h1 h2 h3; first | contradiction | exact own_clr _)) hZ (hw _ (List.mem_of_getElem? (i := 4) rfl)) (hw _ (List.mem_of_getElem? (i := 3) rfl)) (by decide) (by decide)) (g := (mkF m 217 #[.val (.long q1), .second, .val (.int p2), .val (.int (0 : Int32)), .val (.ref b1), .val (.int (1 : Int32)), .val (.int (1 : Int32)), .val (.int (1 : Int32)), .val (.int (4 : Int32))] [(.int (0 : Int32)), (.ref b1)])) rfl (by rw [hml]; rfl) (argsL := [(.ref b1), (.int (0 : Int32))]) (rest := []) (lenOf own_pd25 rfl) rfl (by show 2 * 0 + _ ≤ _; exact Nat.le_of_eq rfl) (hb hby at_217) (fun _ _ => ⟨rfl, e74, (by decide : 1 + 0 ≤ _), (by decide : 8 + 0 ≤ _)⟩)
          dsimp only [Pt.U, Pt.locs, Pt.cells, Pt.slots] at X77 l77 y77 z77 st77 hQ77
          subst l77 y77 z77
          obtain ⟨rfl, N77q, e77⟩ := hQ77
          have N78 := Fr.app N75 N77q
          have k79 : ∀ t, Steps p.tables e below (T77.setTop (mkF m 222 #[.val (.long q1), .second, .val (.int p2), .val (.int (0 : Int32)), .val (.ref b1), .val (.int (1 : Int32)), .val (.int (1 : Int32)), .val (.int (1 : Int32)), .val (.int (4 : Int32))] [(.int (4 : Int32)), (.int (own_v0_f1 (nar .byte (own_b0 q1)) (nar .byte (own_b1 q1)) (nar .byte (own_b2 q1))))])) t → Steps p.tables e below (s₁.setTop (entryFrame m #[(.long q1), (.int p2)] maxLocals)) t := by
            intro t kt
            refine k68 t ?_
            show Steps p.tables e below (T32.setTop (mkF m 137 #[.val (.long q1), .second, .val (.int p2), .val (.int (0 : Int32)), .val (.ref b1), .val (.int (1 : Int32)), .val (.int (1 : Int32)), .unset, .unset] [(.int ((nar .byte (own_b2 q1)) &&& (128 : Int32)))])) _
            refine XS.ifNo X32.here hx rfl (hb hby at_137) rfl ((if0 _ _).trans (feq hc14).1) ?_
            show Steps p.tables e below (T32.setTop (mkF m 140 #[.val (.long q1), .second, .val (.int p2), .val (.int (0 : Int32)), .val (.ref b1), .val (.int (1 : Int32)), .val (.int (1 : Int32)), .unset, .unset] [])) _
            refine XS.iconst X32.here hx rfl (hb hby at_140) ?_
            show Steps p.tables e below (T32.setTop (mkF m 141 #[.val (.long q1), .second, .val (.int p2), .val (.int (0 : Int32)), .val (.ref b1), .val (.int (1 : Int32)), .val (.int (1 : Int32)), .unset, .unset] [(.int (1 : Int32))])) _
            refine XS.goto X32.here hx rfl (pc0 := 141) (pc' := 145) rfl (hb hby at_141) (by decide) (by decide) ?_
            show Steps p.tables e below (T32.setTop (mkF m 145 #[.val (.long q1), .second, .val (.int p2), .val (.int (0 : Int32)), .val (.ref b1), .val (.int (1 : Int32)), .val (.int (1 : Int32)), .unset, .unset] [(.int (1 : Int32))])) _
            refine XS.istore X32.here hx rfl (hb hby at_145) rfl (l' := #[.val (.long q1), .second, .val (.int p2), .val (.int (0 : Int32)), .val (.ref b1), .val (.int (1 : Int32)), .val (.int (1 : Int32)), .val (.int (1 : Int32)), .unset]) rfl ?_
            show Steps p.tables e below (T32.setTop (mkF m 147 #[.val (.long q1), .second, .val (.int p2), .val (.int (0 : Int32)), .val (.ref b1), .val (.int (1 : Int32)), .val (.int (1 : Int32)), .val (.int (1 : Int32)), .unset] [])) _
            refine XS.iload X32.here hx rfl (hb hby at_147) rfl ?_
            show Steps p.tables e below (T32.setTop (mkF m 149 #[.val (.long q1), .second, .val (.int p2), .val (.int (0 : Int32)), .val (.ref b1), .val (.int (1 : Int32)), .val (.int (1 : Int32)), .val (.int (1 : Int32)), .unset] [(.int (1 : Int32))])) _
            refine XS.ifNo X32.here hx rfl (hb hby at_149) rfl ((if0 _ _).trans (feq (by decide : ¬ ((1 : Int32) = (0 : Int32)))).1) ?_
            show Steps p.tables e below (T32.setTop (mkF m 152 #[.val (.long q1), .second, .val (.int p2), .val (.int (0 : Int32)), .val (.ref b1), .val (.int (1 : Int32)), .val (.int (1 : Int32)), .val (.int (1 : Int32)), .unset] [])) _
            refine XS.iload X32.here hx rfl (hb hby at_152) rfl ?_
            show Steps p.tables e below (T32.setTop (mkF m 154 #[.val (.long q1), .second, .val (.int p2), .val (.int (0 : Int32)), .val (.ref b1), .val (.int (1 : Int32)), .val (.int (1 : Int32)), .val (.int (1 : Int32)), .unset] [(.int (1 : Int32))])) _
            refine XS.ifNo X32.here hx rfl (hb hby at_154) rfl ((if0 _ _).trans (feq (by decide : ¬ ((1 : Int32) = (0 : Int32)))).1) ?_
            show Steps p.tables e below (T32.setTop (mkF m 157 #[.val (.long q1), .second, .val (.int p2), .val (.int (0 : Int32)), .val (.ref b1), .val (.int (1 : Int32)), .val (.int (1 : Int32)), .val (.int (1 : Int32)), .unset] [])) _
            refine XS.iload X32.here hx rfl (hb hby at_157) rfl ?_
            show Steps p.tables e below (T32.setTop (mkF m 159 #[.val (.long q1), .second, .val (.int p2), .val (.int (0 : Int32)), .val (.ref b1), .val (.int (1 : Int32)), .val (.int (1 : Int32)), .val (.int (1 : Int32)), .unset] [(.int (1 : Int32))])) _
            refine XS.ifNo X32.here hx rfl (hb hby at_159) rfl ((if0 _ _).trans (feq (by decide : ¬ ((1 : Int32) = (0 : Int32)))).1) ?_
            show Steps p.tables e below (T32.setTop (mkF m 162 #[.val (.long q1), .second, .val (.int p2), .val (.int (0 : Int32)), .val (.ref b1), .val (.int (1 : Int32)), .val (.int (1 : Int32)), .val (.int (1 : Int32)), .unset] [])) _
            refine XS.aload X32.here hx rfl (hb hby at_162) rfl rfl ?_
            show Steps p.tables e below (T32.setTop (mkF m 164 #[.val (.long q1), .second, .val (.int p2), .val (.int (0 : Int32)), .val (.ref b1), .val (.int (1 : Int32)), .val (.int (1 : Int32)), .val (.int (1 : Int32)), .unset] [(.ref b1)])) _
            refine XS.iloadN X32.here hx rfl (hb hby at_164) rfl ?_
            show Steps p.tables e below (T32.setTop (mkF m 165 #[.val (.long q1), .second, .val (.int p2), .val (.int (0 : Int32)), .val (.ref b1), .val (.int (1 : Int32)), .val (.int (1 : Int32)), .val (.int (1 : Int32)), .unset] [(.int (0 : Int32)), (.ref b1)])) _
            refine XS.iconst X32.here hx rfl (hb hby at_165) ?_
            show Steps p.tables e below (T32.setTop (mkF m 166 #[.val (.long q1), .second, .val (.int p2), .val (.int (0 : Int32)), .val (.ref b1), .val (.int (1 : Int32)), .val (.int (1 : Int32)), .val (.int (1 : Int32)), .unset] [(.int (3 : Int32)), (.int (0 : Int32)), (.ref b1)])) _
            refine XS.iadd X32.here hx rfl (hb hby at_166) rfl ?_
            show Steps p.tables e below (T32.setTop (mkF m 167 #[.val (.long q1), .second, .val (.int p2), .val (.int (0 : Int32)), .val (.ref b1), .val (.int (1 : Int32)), .val (.int (1 : Int32)), .val (.int (1 : Int32)), .unset] [(.int (3 : Int32)), (.ref b1)])) _
            refine XS.aload X32.here hx rfl (hb hby at_167) rfl rfl ?_
            show Steps p.tables e below (T32.setTop (mkF m 169 #[.val (.long q1), .second, .val (.int p2), .val (.int (0 : Int32)), .val (.ref b1), .val (.int (1 : Int32)), .val (.int (1 : Int32)), .val (.int (1 : Int32)), .unset] [(.ref b1), (.int (3 : Int32)), (.ref b1)])) _
            refine XS.iloadN X32.here hx rfl (hb hby at_169) rfl ?_
            show Steps p.tables e below (T32.setTop (mkF m 170 #[.val (.long q1), .second, .val (.int p2), .val (.int (0 : Int32)), .val (.ref b1), .val (.int (1 : Int32)), .val (.int (1 : Int32)), .val (.int (1 : Int32)), .unset] [(.int (0 : Int32)), (.ref b1), (.int (3 : Int32)), (.ref b1)])) _
            refine XS.iconst X32.here hx rfl (hb hby at_170) ?_
            show Steps p.tables e below (T32.setTop (mkF m 171 #[.val (.long q1), .second, .val (.int p2), .val (.int (0 : Int32)), .val (.ref b1), .val (.int (1 : Int32)), .val (.int (1 : Int32)), .val (.int (1 : Int32)), .unset] [(.int (3 : Int32)), (.int (0 : Int32)), (.ref b1), (.int (3 : Int32)), (.ref b1)])) _
            refine XS.iadd X32.here hx rfl (hb hby at_171) rfl ?_
            show Steps p.tables e below (T32.setTop (mkF m 172 #[.val (.long q1), .second, .val (.int p2), .val (.int (0 : Int32)), .val (.ref b1), .val (.int (1 : Int32)), .val (.int (1 : Int32)), .val (.int (1 : Int32)), .unset] [(.int (3 : Int32)), (.ref b1), (.int (3 : Int32)), (.ref b1)])) _
            refine X32.baloadBytes hx (j := (3 : Int32)) (v := (.int (nar .byte (own_b3 q1)))) (by rw [e32]; exact Ar72.1) (State.isArrayOf_alike hZ.alike Ar72.2.1) Ar72.2.2 hin72 hat72 (g := (mkF m 172 #[.val (.long q1), .second, .val (.int p2), .val (.int (0 : Int32)), .val (.ref b1), .val (.int (1 : Int32)), .val (.int (1 : Int32)), .val (.int (1 : Int32)), .unset] [(.int (3 : Int32)), (.ref b1), (.int (3 : Int32)), (.ref b1)])) rfl rfl (hb hby at_172) _ ?_
            show Steps p.tables e below (T32.setTop (mkF m 173 #[.val (.long q1), .second, .val (.int p2), .val (.int (0 : Int32)), .val (.ref b1), .val (.int (1 : Int32)), .val (.int (1 : Int32)), .val (.int (1 : Int32)), .unset] [(.int (nar .byte (own_b3 q1))), (.int (3 : Int32)), (.ref b1)])) _
            refine XS.bipush X32.here hx rfl (hb hby at_173) ?_
            show Steps p.tables e below (T32.setTop (mkF m 175 #[.val (.long q1), .second, .val (.int p2), .val (.int (0 : Int32)), .val (.ref b1), .val (.int (1 : Int32)), .val (.int (1 : Int32)), .val (.int (1 : Int32)), .unset] [(.int (127 : Int32)), (.int (nar .byte (own_b3 q1))), (.int (3 : Int32)), (.ref b1)])) _
            refine XS.iand X32.here hx rfl (hb hby at_175) rfl ?_
            show Steps p.tables e below (T32.setTop (mkF m 176 #[.val (.long q1), .second, .val (.int p2), .val (.int (0 : Int32)), .val (.ref b1), .val (.int (1 : Int32)), .val (.int (1 : Int32)), .val (.int (1 : Int32)), .unset] [(.int ((nar .byte (own_b3 q1)) &&& (127 : Int32))), (.int (3 : Int32)), (.ref b1)])) _
            refine XS.i2b X32.here hx rfl (hb hby at_176) rfl ?_
            show Steps p.tables e below (T32.setTop (mkF m 177 #[.val (.long q1), .second, .val (.int p2), .val (.int (0 : Int32)), .val (.ref b1), .val (.int (1 : Int32)), .val (.int (1 : Int32)), .val (.int (1 : Int32)), .unset] [(.int (((nar .byte (own_b3 q1)) &&& (127 : Int32)).toInt8.toInt32)), (.int (3 : Int32)), (.ref b1)])) _
            refine st74 _ ?_
            show Steps p.tables e below (T74.setTop (mkF m 178 #[.val (.long q1), .second, .val (.int p2), .val (.int (0 : Int32)), .val (.ref b1), .val (.int (1 : Int32)), .val (.int (1 : Int32)), .val (.int (1 : Int32)), .unset] [])) _
            refine XS.iload X74.here hx rfl (hb hby at_178) rfl ?_
            show Steps p.tables e below (T74.setTop (mkF m 180 #[.val (.long q1), .second, .val (.int p2), .val (.int (0 : Int32)), .val (.ref b1), .val (.int (1 : Int32)), .val (.int (1 : Int32)), .val (.int (1 : Int32)), .unset] [(.int (1 : Int32))])) _
            refine XS.ifYes X74.here hx rfl (pc0 := 180) (pc' := 189) rfl (hb hby at_180) rfl ((if0 _ _).trans (feq (by decide : ¬ ((1 : Int32) = (0 : Int32)))).2) (by decide) (by decide) ?_
            show Steps p.tables e below (T74.setTop (mkF m 189 #[.val (.long q1), .second, .val (.int p2), .val (.int (0 : Int32)), .val (.ref b1), .val (.int (1 : Int32)), .val (.int (1 : Int32)), .val (.int (1 : Int32)), .unset] [])) _
            refine XS.iload X74.here hx rfl (hb hby at_189) rfl ?_
            show Steps p.tables e below (T74.setTop (mkF m 191 #[.val (.long q1), .second, .val (.int p2), .val (.int (0 : Int32)), .val (.ref b1), .val (.int (1 : Int32)), .val (.int (1 : Int32)), .val (.int (1 : Int32)), .unset] [(.int (1 : Int32))])) _
            refine XS.ifYes X74.here hx rfl (pc0 := 191) (pc' := 200) rfl (hb hby at_191) rfl ((if0 _ _).trans (feq (by decide : ¬ ((1 : Int32) = (0 : Int32)))).2) (by decide) (by decide) ?_
            show Steps p.tables e below (T74.setTop (mkF m 200 #[.val (.long q1), .second, .val (.int p2), .val (.int (0 : Int32)), .val (.ref b1), .val (.int (1 : Int32)), .val (.int (1 : Int32)), .val (.int (1 : Int32)), .unset] [])) _
            refine XS.iload X74.here hx rfl (hb hby at_200) rfl ?_
            show Steps p.tables e below (T74.setTop (mkF m 202 #[.val (.long q1), .second, .val (.int p2), .val (.int (0 : Int32)), .val (.ref b1), .val (.int (1 : Int32)), .val (.int (1 : Int32)), .val (.int (1 : Int32)), .unset] [(.int (1 : Int32))])) _
            refine XS.ifYes X74.here hx rfl (pc0 := 202) (pc' := 211) rfl (hb hby at_202) rfl ((if0 _ _).trans (feq (by decide : ¬ ((1 : Int32) = (0 : Int32)))).2) (by decide) (by decide) ?_
            show Steps p.tables e below (T74.setTop (mkF m 211 #[.val (.long q1), .second, .val (.int p2), .val (.int (0 : Int32)), .val (.ref b1), .val (.int (1 : Int32)), .val (.int (1 : Int32)), .val (.int (1 : Int32)), .unset] [])) _
            refine XS.iconst X74.here hx rfl (hb hby at_211) ?_
            show Steps p.tables e below (T74.setTop (mkF m 212 #[.val (.long q1), .second, .val (.int p2), .val (.int (0 : Int32)), .val (.ref b1), .val (.int (1 : Int32)), .val (.int (1 : Int32)), .val (.int (1 : Int32)), .unset] [(.int (4 : Int32))])) _
            refine XS.istore X74.here hx rfl (hb hby at_212) rfl (l' := #[.val (.long q1), .second, .val (.int p2), .val (.int (0 : Int32)), .val (.ref b1), .val (.int (1 : Int32)), .val (.int (1 : Int32)), .val (.int (1 : Int32)), .val (.int (4 : Int32))]) rfl ?_
            show Steps p.tables e below (T74.setTop (mkF m 214 #[.val (.long q1), .second, .val (.int p2), .val (.int (0 : Int32)), .val (.ref b1), .val (.int (1 : Int32)), .val (.int (1 : Int32)), .val (.int (1 : Int32)), .val (.int (4 : Int32))] [])) _
            refine XS.aload X74.here hx rfl (hb hby at_214) rfl rfl ?_
            show Steps p.tables e below (T74.setTop (mkF m 216 #[.val (.long q1), .second, .val (.int p2), .val (.int (0 : Int32)), .val (.ref b1), .val (.int (1 : Int32)), .val (.int (1 : Int32)), .val (.int (1 : Int32)), .val (.int (4 : Int32))] [(.ref b1)])) _
            refine XS.iloadN X74.here hx rfl (hb hby at_216) rfl ?_
            show Steps p.tables e below (T74.setTop (mkF m 217 #[.val (.long q1), .second, .val (.int p2), .val (.int (0 : Int32)), .val (.ref b1), .val (.int (1 : Int32)), .val (.int (1 : Int32)), .val (.int (1 : Int32)), .val (.int (4 : Int32))] [(.int (0 : Int32)), (.ref b1)])) _
            refine st77 _ ?_
            show Steps p.tables e below (T77.setTop (mkF m 220 #[.val (.long q1), .second, .val (.int p2), .val (.int (0 : Int32)), .val (.ref b1), .val (.int (1 : Int32)), .val (.int (1 : Int32)), .val (.int (1 : Int32)), .val (.int (4 : Int32))] [(.int (own_v0_f1 (nar .byte (own_b0 q1)) (nar .byte (own_b1 q1)) (nar .byte (own_b2 q1))))])) _
            refine XS.iload X77.here hx rfl (hb hby at_220) rfl ?_
            exact kt
          by_cases hc16 : (own_v0_f1 (nar .byte (own_b0 q1)) (nar .byte (own_b1 q1)) (nar .byte (own_b2 q1))) = (4 : Int32)
          ·
            obtain ⟨fs, hr, hrun, hended, hW, hsame⟩ := X77.leave (v := some (.int (1 : Int32))) (fun h => by rw [Bd.returns] at h; cases h)
            refine ⟨_, _, k79 _ ?_, hrun, hended, _, _, rfl, ?_, ⟨_, rfl⟩, hW, hsame.mono (by decide) (by decide)⟩
            · show Steps p.tables e below (T77.setTop (mkF m 222 #[.val (.long q1), .second, .val (.int p2), .val (.int (0 : Int32)), .val (.ref b1), .val (.int (1 : Int32)), .val (.int (1 : Int32)), .val (.int (1 : Int32)), .val (.int (4 : Int32))] [(.int (4 : Int32)), (.int (own_v0_f1 (nar .byte (own_b0 q1)) (nar .byte (own_b1 q1)) (nar .byte (own_b2 q1))))])) _
              refine XS.icmpNo X77.here hx rfl (hb hby at_222) rfl (teq hc16).2 ?_
              show Steps p.tables e below (T77.setTop (mkF m 225 #[.val (.long q1), .second, .val (.int p2), .val (.int (0 : Int32)), .val (.ref b1), .val (.int (1 : Int32)), .val (.int (1 : Int32)), .val (.int (1 : Int32)), .val (.int (4 : Int32))] [])) _
              refine XS.iconst X77.here hx rfl (hb hby at_225) ?_
              show Steps p.tables e below (T77.setTop (mkF m 226 #[.val (.long q1), .second, .val (.int p2), .val (.int (0 : Int32)), .val (.ref b1), .val (.int (1 : Int32)), .val (.int (1 : Int32)), .val (.int (1 : Int32)), .val (.int (4 : Int32))] [(.int (1 : Int32))])) _
              refine XS.goto X77.here hx rfl (pc0 := 226) (pc' := 230) rfl (hb hby at_226) (by decide) (by decide) ?_
              show Steps p.tables e below (T77.setTop (mkF m 230 #[.val (.long q1), .second, .val (.int p2), .val (.int (0 : Int32)), .val (.ref b1), .val (.int (1 : Int32)), .val (.int (1 : Int32)), .val (.int (1 : Int32)), .val (.int (4 : Int32))] [(.int (1 : Int32))])) _
              exact retN X77 hx (t := .boolean) Bd.returns (by simp) (hb hby at_230) hr
            · show own_Q0 Z q1 p2 h0 n0 _ T77.heap _
              rw [e77]
              exact ⟨(by rw [own_f0, if_pos hc1, if_neg hc2, if_neg hc10, if_neg hc14, if_pos hc16]), N78⟩
          ·
            obtain ⟨fs, hr, hrun, hended, hW, hsame⟩ := X77.leave (v := some (.int (0 : Int32))) (fun h => by rw [Bd.returns] at h; cases h)
            refine ⟨_, _, k79 _ ?_, hrun, hended, _, _, rfl, ?_, ⟨_, rfl⟩, hW, hsame.mono (by decide) (by decide)⟩
            · show Steps p.tables e below (T77.setTop (mkF m 222 #[.val (.long q1), .second, .val (.int p2), .val (.int (0 : Int32)), .val (.ref b1), .val (.int (1 : Int32)), .val (.int (1 : Int32)), .val (.int (1 : Int32)), .val (.int (4 : Int32))] [(.int (4 : Int32)), (.int (own_v0_f1 (nar .byte (own_b0 q1)) (nar .byte (own_b1 q1)) (nar .byte (own_b2 q1))))])) _
              refine XS.icmpYes X77.here hx rfl (pc0 := 222) (pc' := 229) rfl (hb hby at_222) rfl (feq hc16).2 (by decide) (by decide) ?_
              show Steps p.tables e below (T77.setTop (mkF m 229 #[.val (.long q1), .second, .val (.int p2), .val (.int (0 : Int32)), .val (.ref b1), .val (.int (1 : Int32)), .val (.int (1 : Int32)), .val (.int (1 : Int32)), .val (.int (4 : Int32))] [])) _
              refine XS.iconst X77.here hx rfl (hb hby at_229) ?_
              show Steps p.tables e below (T77.setTop (mkF m 230 #[.val (.long q1), .second, .val (.int p2), .val (.int (0 : Int32)), .val (.ref b1), .val (.int (1 : Int32)), .val (.int (1 : Int32)), .val (.int (1 : Int32)), .val (.int (4 : Int32))] [(.int (0 : Int32))])) _
              exact retN X77 hx (t := .boolean) Bd.returns (by simp) (hb hby at_230) hr
            · show own_Q0 Z q1 p2 h0 n0 _ T77.heap _
              rw [e77]
              exact ⟨(by rw [own_f0, if_pos hc1, if_neg hc2, if_neg hc10, if_neg hc14, if_neg hc16]), N78⟩
  ·
    by_cases hc17 : (p2 &&& (3 : Int32)) = (1 : Int32)
    ·
      have k80 : ∀ t, Steps p.tables e below (T32.setTop (mkF m 92 #[.val (.long q1), .second, .val (.int p2), .val (.int (1 : Int32)), .val (.ref b1), .unset, .unset, .unset, .unset] [(.int (1 : Int32)), (.ref b1)])) t → Steps p.tables e below (s₁.setTop (entryFrame m #[(.long q1), (.int p2)] maxLocals)) t := by
        intro t kt
        refine k35 t ?_
        rw [hc17]
        exact kt
      obtain ⟨cl81, Ar81, qk81, Sz81, Nn81, Hs81, Gf81⟩ := id V_b1_32
      have hin81 : ¬ ((1 : Int32) < 0 ∨ cl81.slots.size ≤ ((1 : Int32)).toNatClampNeg) := inb_of Sz81 ⟨by decide, by decide⟩
      have hat81 : cl81.slots[((1 : Int32)).toNatClampNeg]? = some (.int (nar .byte (own_b1 q1))) := Has.at Hs81 hin81 rfl
      have k82 : ∀ t, Steps p.tables e below (T32.setTop (mkF m 97 #[.val (.long q1), .second, .val (.int p2), .val (.int (1 : Int32)), .val (.ref b1), .unset, .unset, .unset, .unset] [(.int ((nar .byte (own_b1 q1)) &&& (128 : Int32)))])) t → Steps p.tables e below (s₁.setTop (entryFrame m #[(.long q1), (.int p2)] maxLocals)) t := by
        intro t kt
        refine k80 t ?_
        show Steps p.tables e below (T32.setTop (mkF m 92 #[.val (.long q1), .second, .val (.int p2), .val (.int (1 : Int32)), .val (.ref b1), .unset, .unset, .unset, .unset] [(.int (1 : Int32)), (.ref b1)])) _
        refine X32.baloadBytes hx (j := (1 : Int32)) (v := (.int (nar .byte (own_b1 q1)))) (by rw [e32]; exact Ar81.1) (State.isArrayOf_alike hZ.alike Ar81.2.1) Ar81.2.2 hin81 hat81 (g := (mkF m 92 #[.val (.long q1), .second, .val (.int p2), .val (.int (1 : Int32)), .val (.ref b1), .unset, .unset, .unset, .unset] [(.int (1 : Int32)), (.ref b1)])) rfl rfl (hb hby at_92) _ ?_
        show Steps p.tables e below (T32.setTop (mkF m 93 #[.val (.long q1), .second, .val (.int p2), .val (.int (1 : Int32)), .val (.ref b1), .unset, .unset, .unset, .unset] [(.int (nar .byte (own_b1 q1)))])) _
        refine XS.sipush X32.here hx rfl (hb hby at_93) ?_
        show Steps p.tables e below (T32.setTop (mkF m 96 #[.val (.long q1), .second, .val (.int p2), .val (.int (1 : Int32)), .val (.ref b1), .unset, .unset, .unset, .unset] [(.int (128 : Int32)), (.int (nar .byte (own_b1 q1)))])) _
        refine XS.iand X32.here hx rfl (hb hby at_96) rfl ?_
        exact kt
      by_cases hc18 : ((nar .byte (own_b1 q1)) &&& (128 : Int32)) = (0 : Int32)
      ·
        obtain ⟨cl83, Ar83, qk83, Sz83, Nn83, Hs83, Gf83⟩ := id V_b1_32
        have hin83 : ¬ ((2 : Int32) < 0 ∨ cl83.slots.size ≤ ((2 : Int32)).toNatClampNeg) := inb_of Sz83 ⟨by decide, by decide⟩
        have hat83 : cl83.slots[((2 : Int32)).toNatClampNeg]? = some (.int (nar .byte (own_b2 q1))) := Has.at Hs83 hin83 rfl
        have k84 : ∀ t, Steps p.tables e below (T32.setTop (mkF m 117 #[.val (.long q1), .second, .val (.int p2), .val (.int (1 : Int32)), .val (.ref b1), .val (.int (0 : Int32)), .unset, .unset, .unset] [(.int ((nar .byte (own_b2 q1)) &&& (128 : Int32)))])) t → Steps p.tables e below (s₁.setTop (entryFrame m #[(.long q1), (.int p2)] maxLocals)) t := by
          intro t kt
          refine k82 t ?_
          show Steps p.tables e below (T32.setTop (mkF m 97 #[.val (.long q1), .second, .val (.int p2), .val (.int (1 : Int32)), .val (.ref b1), .unset, .unset, .unset, .unset] [(.int ((nar .byte (own_b1 q1)) &&& (128 : Int32)))])) _
          refine XS.ifYes X32.here hx rfl (pc0 := 97) (pc' := 104) rfl (hb hby at_97) rfl ((if0 _ _).trans (teq hc18).1) (by decide) (by decide) ?_
          show Steps p.tables e below (T32.setTop (mkF m 104 #[.val (.long q1), .second, .val (.int p2), .val (.int (1 : Int32)), .val (.ref b1), .unset, .unset, .unset, .unset] [])) _
          refine XS.iconst X32.here hx rfl (hb hby at_104) ?_
          show Steps p.tables e below (T32.setTop (mkF m 105 #[.val (.long q1), .second, .val (.int p2), .val (.int (1 : Int32)), .val (.ref b1), .unset, .unset, .unset, .unset] [(.int (0 : Int32))])) _
          refine XS.istore X32.here hx rfl (hb hby at_105) rfl (l' := #[.val (.long q1), .second, .val (.int p2), .val (.int (1 : Int32)), .val (.ref b1), .val (.int (0 : Int32)), .unset, .unset, .unset]) rfl ?_
          show Steps p.tables e below (T32.setTop (mkF m 107 #[.val (.long q1), .second, .val (.int p2), .val (.int (1 : Int32)), .val (.ref b1), .val (.int (0 : Int32)), .unset, .unset, .unset] [])) _
          refine XS.aload X32.here hx rfl (hb hby at_107) rfl rfl ?_
          show Steps p.tables e below (T32.setTop (mkF m 109 #[.val (.long q1), .second, .val (.int p2), .val (.int (1 : Int32)), .val (.ref b1), .val (.int (0 : Int32)), .unset, .unset, .unset] [(.ref b1)])) _
          refine XS.iloadN X32.here hx rfl (hb hby at_109) rfl ?_
          show Steps p.tables e below (T32.setTop (mkF m 110 #[.val (.long q1), .second, .val (.int p2), .val (.int (1 : Int32)), .val (.ref b1), .val (.int (0 : Int32)), .unset, .unset, .unset] [(.int (1 : Int32)), (.ref b1)])) _
          refine XS.iconst X32.here hx rfl (hb hby at_110) ?_
          show Steps p.tables e below (T32.setTop (mkF m 111 #[.val (.long q1), .second, .val (.int p2), .val (.int (1 : Int32)), .val (.ref b1), .val (.int (0 : Int32)), .unset, .unset, .unset] [(.int (1 : Int32)), (.int (1 : Int32)), (.ref b1)])) _
          refine XS.iadd X32.here hx rfl (hb hby at_111) rfl ?_
          show Steps p.tables e below (T32.setTop (mkF m 112 #[.val (.long q1), .second, .val (.int p2), .val (.int (1 : Int32)), .val (.ref b1), .val (.int (0 : Int32)), .unset, .unset, .unset] [(.int (2 : Int32)), (.ref b1)])) _
          refine X32.baloadBytes hx (j := (2 : Int32)) (v := (.int (nar .byte (own_b2 q1)))) (by rw [e32]; exact Ar83.1) (State.isArrayOf_alike hZ.alike Ar83.2.1) Ar83.2.2 hin83 hat83 (g := (mkF m 112 #[.val (.long q1), .second, .val (.int p2), .val (.int (1 : Int32)), .val (.ref b1), .val (.int (0 : Int32)), .unset, .unset, .unset] [(.int (2 : Int32)), (.ref b1)])) rfl rfl (hb hby at_112) _ ?_
          show Steps p.tables e below (T32.setTop (mkF m 113 #[.val (.long q1), .second, .val (.int p2), .val (.int (1 : Int32)), .val (.ref b1), .val (.int (0 : Int32)), .unset, .unset, .unset] [(.int (nar .byte (own_b2 q1)))])) _
          refine XS.sipush X32.here hx rfl (hb hby at_113) ?_
          show Steps p.tables e below (T32.setTop (mkF m 116 #[.val (.long q1), .second, .val (.int p2), .val (.int (1 : Int32)), .val (.ref b1), .val (.int (0 : Int32)), .unset, .unset, .unset] [(.int (128 : Int32)), (.int (nar .byte (own_b2 q1)))])) _
          refine XS.iand X32.here hx rfl (hb hby at_116) rfl ?_
          exact kt
        by_cases hc19 : ((nar .byte (own_b2 q1)) &&& (128 : Int32)) = (0 : Int32)
        ·
          obtain ⟨cl85, Ar85, qk85, Sz85, Nn85, Hs85, Gf85⟩ := id V_b1_32
          have hin85 : ¬ ((3 : Int32) < 0 ∨ cl85.slots.size ≤ ((3 : Int32)).toNatClampNeg) := inb_of Sz85 ⟨by decide, by decide⟩
          have hat85 : cl85.slots[((3 : Int32)).toNatClampNeg]? = some (.int (nar .byte (own_b3 q1))) := Has.at Hs85 hin85 rfl
          have k86 : ∀ t, Steps p.tables e below (T32.setTop (mkF m 137 #[.val (.long q1), .second, .val (.int p2), .val (.int (1 : Int32)), .val (.ref b1), .val (.int (0 : Int32)), .val (.int (0 : Int32)), .unset, .unset] [(.int ((nar .byte (own_b3 q1)) &&& (128 : Int32)))])) t → Steps p.tables e below (s₁.setTop (entryFrame m #[(.long q1), (.int p2)] maxLocals)) t := by
            intro t kt
            refine k84 t ?_
            show Steps p.tables e below (T32.setTop (mkF m 117 #[.val (.long q1), .second, .val (.int p2), .val (.int (1 : Int32)), .val (.ref b1), .val (.int (0 : Int32)), .unset, .unset, .unset] [(.int ((nar .byte (own_b2 q1)) &&& (128 : Int32)))])) _
            refine XS.ifYes X32.here hx rfl (pc0 := 117) (pc' := 124) rfl (hb hby at_117) rfl ((if0 _ _).trans (teq hc19).1) (by decide) (by decide) ?_
            show Steps p.tables e below (T32.setTop (mkF m 124 #[.val (.long q1), .second, .val (.int p2), .val (.int (1 : Int32)), .val (.ref b1), .val (.int (0 : Int32)), .unset, .unset, .unset] [])) _
            refine XS.iconst X32.here hx rfl (hb hby at_124) ?_
            show Steps p.tables e below (T32.setTop (mkF m 125 #[.val (.long q1), .second, .val (.int p2), .val (.int (1 : Int32)), .val (.ref b1), .val (.int (0 : Int32)), .unset, .unset, .unset] [(.int (0 : Int32))])) _
            refine XS.istore X32.here hx rfl (hb hby at_125) rfl (l' := #[.val (.long q1), .second, .val (.int p2), .val (.int (1 : Int32)), .val (.ref b1), .val (.int (0 : Int32)), .val (.int (0 : Int32)), .unset, .unset]) rfl ?_
            show Steps p.tables e below (T32.setTop (mkF m 127 #[.val (.long q1), .second, .val (.int p2), .val (.int (1 : Int32)), .val (.ref b1), .val (.int (0 : Int32)), .val (.int (0 : Int32)), .unset, .unset] [])) _
            refine XS.aload X32.here hx rfl (hb hby at_127) rfl rfl ?_
            show Steps p.tables e below (T32.setTop (mkF m 129 #[.val (.long q1), .second, .val (.int p2), .val (.int (1 : Int32)), .val (.ref b1), .val (.int (0 : Int32)), .val (.int (0 : Int32)), .unset, .unset] [(.ref b1)])) _
            refine XS.iloadN X32.here hx rfl (hb hby at_129) rfl ?_
            show Steps p.tables e below (T32.setTop (mkF m 130 #[.val (.long q1), .second, .val (.int p2), .val (.int (1 : Int32)), .val (.ref b1), .val (.int (0 : Int32)), .val (.int (0 : Int32)), .unset, .unset] [(.int (1 : Int32)), (.ref b1)])) _
            refine XS.iconst X32.here hx rfl (hb hby at_130) ?_
            show Steps p.tables e below (T32.setTop (mkF m 131 #[.val (.long q1), .second, .val (.int p2), .val (.int (1 : Int32)), .val (.ref b1), .val (.int (0 : Int32)), .val (.int (0 : Int32)), .unset, .unset] [(.int (2 : Int32)), (.int (1 : Int32)), (.ref b1)])) _
            refine XS.iadd X32.here hx rfl (hb hby at_131) rfl ?_
            show Steps p.tables e below (T32.setTop (mkF m 132 #[.val (.long q1), .second, .val (.int p2), .val (.int (1 : Int32)), .val (.ref b1), .val (.int (0 : Int32)), .val (.int (0 : Int32)), .unset, .unset] [(.int (3 : Int32)), (.ref b1)])) _
            refine X32.baloadBytes hx (j := (3 : Int32)) (v := (.int (nar .byte (own_b3 q1)))) (by rw [e32]; exact Ar85.1) (State.isArrayOf_alike hZ.alike Ar85.2.1) Ar85.2.2 hin85 hat85 (g := (mkF m 132 #[.val (.long q1), .second, .val (.int p2), .val (.int (1 : Int32)), .val (.ref b1), .val (.int (0 : Int32)), .val (.int (0 : Int32)), .unset, .unset] [(.int (3 : Int32)), (.ref b1)])) rfl rfl (hb hby at_132) _ ?_
            show Steps p.tables e below (T32.setTop (mkF m 133 #[.val (.long q1), .second, .val (.int p2), .val (.int (1 : Int32)), .val (.ref b1), .val (.int (0 : Int32)), .val (.int (0 : Int32)), .unset, .unset] [(.int (nar .byte (own_b3 q1)))])) _
            refine XS.sipush X32.here hx rfl (hb hby at_133) ?_
            show Steps p.tables e below (T32.setTop (mkF m 136 #[.val (.long q1), .second, .val (.int p2), .val (.int (1 : Int32)), .val (.ref b1), .val (.int (0 : Int32)), .val (.int (0 : Int32)), .unset, .unset] [(.int (128 : Int32)), (.int (nar .byte (own_b3 q1)))])) _
            refine XS.iand X32.here hx rfl (hb hby at_136) rfl ?_
            exact kt
          by_cases hc20 : ((nar .byte (own_b3 q1)) &&& (128 : Int32)) = (0 : Int32)
          ·
            obtain ⟨v87, _, ⟨T87, L87, k87, n87⟩, -, X87, ⟨Lc87, hQ87, l87, y87, z87⟩, st87⟩ := Jvm.LawKit.callS X32 hx (y := (⟨"com/example/castd/castd/mqtt/VariableByteInteger", "length", "([BI)I"⟩ : MethodName)) hown (mvT hZ (hw _ (List.mem_of_getElem? (i := 1) rfl))) (mvT hZ (hw _ (List.mem_of_getElem? (i := 2) rfl))) (mvT hZ (hw _ (List.mem_of_getElem? (i := 3) rfl))) (mvT hZ (hw _ (List.mem_of_getElem? (i := 4) rfl))) (by decide) (backOf (W := 0) (own_v1_rm1 l Z a0 hw [] b1 k1 (nar .byte (own_b0 q1)) (nar .byte (own_b1 q1)) (nar .byte (own_b2 q1)) (nar .byte (own_b3 q1)) (nar .byte (own_b4 q1)) (nar .byte (own_b5 q1)) (nar .byte (own_b6 q1)) (nar .byte (own_b7 q1)) h32 n0 Z34 V_b1_32 (by intro h1 h2 h3; first | contradiction | exact own_clr _)) hZ (hw _ (List.mem_of_getElem? (i := 4) rfl)) (hw _ (List.mem_of_getElem? (i := 3) rfl)) (by decide) (by decide)) (g := (mkF m 217 #[.val (.long q1), .second, .val (.int p2), .val (.int (1 : Int32)), .val (.ref b1), .val (.int (0 : Int32)), .val (.int (0 : Int32)), .val (.int (0 : Int32)), .val (.int (1 : Int32))] [(.int (1 : Int32)), (.ref b1)])) rfl (by rw [hml]; rfl) (argsL := [(.ref b1), (.int (1 : Int32))]) (rest := []) (lenOf own_pd25 rfl) rfl (by show 2 * 0 + _ ≤ _; exact Nat.le_of_eq rfl) (hb hby at_217) (fun _ _ => ⟨rfl, e32, (by decide : 1 + 0 ≤ _), (by decide : 8 + 0 ≤ _)⟩)
            dsimp only [Pt.U, Pt.locs, Pt.cells, Pt.slots] at X87 l87 y87 z87 st87 hQ87
            subst l87 y87 z87
            obtain ⟨rfl, N87q, e87⟩ := hQ87
            have N88 := Fr.app N33 N87q
            have k89 : ∀ t, Steps p.tables e below (T87.setTop (mkF m 222 #[.val (.long q1), .second, .val (.int p2), .val (.int (1 : Int32)), .val (.ref b1), .val (.int (0 : Int32)), .val (.int (0 : Int32)), .val (.int (0 : Int32)), .val (.int (1 : Int32))] [(.int (1 : Int32)), (.int (own_v1_f1 (nar .byte (own_b1 q1)) (nar .byte (own_b2 q1)) (nar .byte (own_b3 q1))))])) t → Steps p.tables e below (s₁.setTop (entryFrame m #[(.long q1), (.int p2)] maxLocals)) t := by
              intro t kt
              refine k86 t ?_
              show Steps p.tables e below (T32.setTop (mkF m 137 #[.val (.long q1), .second, .val (.int p2), .val (.int (1 : Int32)), .val (.ref b1), .val (.int (0 : Int32)), .val (.int (0 : Int32)), .unset, .unset] [(.int ((nar .byte (own_b3 q1)) &&& (128 : Int32)))])) _
              refine XS.ifYes X32.here hx rfl (pc0 := 137) (pc' := 144) rfl (hb hby at_137) rfl ((if0 _ _).trans (teq hc20).1) (by decide) (by decide) ?_
              show Steps p.tables e below (T32.setTop (mkF m 144 #[.val (.long q1), .second, .val (.int p2), .val (.int (1 : Int32)), .val (.ref b1), .val (.int (0 : Int32)), .val (.int (0 : Int32)), .unset, .unset] [])) _
              refine XS.iconst X32.here hx rfl (hb hby at_144) ?_
              show Steps p.tables e below (T32.setTop (mkF m 145 #[.val (.long q1), .second, .val (.int p2), .val (.int (1 : Int32)), .val (.ref b1), .val (.int (0 : Int32)), .val (.int (0 : Int32)), .unset, .unset] [(.int (0 : Int32))])) _
              refine XS.istore X32.here hx rfl (hb hby at_145) rfl (l' := #[.val (.long q1), .second, .val (.int p2), .val (.int (1 : Int32)), .val (.ref b1), .val (.int (0 : Int32)), .val (.int (0 : Int32)), .val (.int (0 : Int32)), .unset]) rfl ?_
              show Steps p.tables e below (T32.setTop (mkF m 147 #[.val (.long q1), .second, .val (.int p2), .val (.int (1 : Int32)), .val (.ref b1), .val (.int (0 : Int32)), .val (.int (0 : Int32)), .val (.int (0 : Int32)), .unset] [])) _
              refine XS.iload X32.here hx rfl (hb hby at_147) rfl ?_
              show Steps p.tables e below (T32.setTop (mkF m 149 #[.val (.long q1), .second, .val (.int p2), .val (.int (1 : Int32)), .val (.ref b1), .val (.int (0 : Int32)), .val (.int (0 : Int32)), .val (.int (0 : Int32)), .unset] [(.int (0 : Int32))])) _
              refine XS.ifYes X32.here hx rfl (pc0 := 149) (pc' := 178) rfl (hb hby at_149) rfl ((if0 _ _).trans (teq (by decide : (0 : Int32) = (0 : Int32))).1) (by decide) (by decide) ?_
              show Steps p.tables e below (T32.setTop (mkF m 178 #[.val (.long q1), .second, .val (.int p2), .val (.int (1 : Int32)), .val (.ref b1), .val (.int (0 : Int32)), .val (.int (0 : Int32)), .val (.int (0 : Int32)), .unset] [])) _
              refine XS.iload X32.here hx rfl (hb hby at_178) rfl ?_
              show Steps p.tables e below (T32.setTop (mkF m 180 #[.val (.long q1), .second, .val (.int p2), .val (.int (1 : Int32)), .val (.ref b1), .val (.int (0 : Int32)), .val (.int (0 : Int32)), .val (.int (0 : Int32)), .unset] [(.int (0 : Int32))])) _
              refine XS.ifNo X32.here hx rfl (hb hby at_180) rfl ((if0 _ _).trans (teq (by decide : (0 : Int32) = (0 : Int32))).2) ?_
              show Steps p.tables e below (T32.setTop (mkF m 183 #[.val (.long q1), .second, .val (.int p2), .val (.int (1 : Int32)), .val (.ref b1), .val (.int (0 : Int32)), .val (.int (0 : Int32)), .val (.int (0 : Int32)), .unset] [])) _
              refine XS.iconst X32.here hx rfl (hb hby at_183) ?_
              show Steps p.tables e below (T32.setTop (mkF m 184 #[.val (.long q1), .second, .val (.int p2), .val (.int (1 : Int32)), .val (.ref b1), .val (.int (0 : Int32)), .val (.int (0 : Int32)), .val (.int (0 : Int32)), .unset] [(.int (1 : Int32))])) _
              refine XS.istore X32.here hx rfl (hb hby at_184) rfl (l' := #[.val (.long q1), .second, .val (.int p2), .val (.int (1 : Int32)), .val (.ref b1), .val (.int (0 : Int32)), .val (.int (0 : Int32)), .val (.int (0 : Int32)), .val (.int (1 : Int32))]) rfl ?_
              show Steps p.tables e below (T32.setTop (mkF m 186 #[.val (.long q1), .second, .val (.int p2), .val (.int (1 : Int32)), .val (.ref b1), .val (.int (0 : Int32)), .val (.int (0 : Int32)), .val (.int (0 : Int32)), .val (.int (1 : Int32))] [])) _
              refine XS.goto X32.here hx rfl (pc0 := 186) (pc' := 214) rfl (hb hby at_186) (by decide) (by decide) ?_
              show Steps p.tables e below (T32.setTop (mkF m 214 #[.val (.long q1), .second, .val (.int p2), .val (.int (1 : Int32)), .val (.ref b1), .val (.int (0 : Int32)), .val (.int (0 : Int32)), .val (.int (0 : Int32)), .val (.int (1 : Int32))] [])) _
              refine XS.aload X32.here hx rfl (hb hby at_214) rfl rfl ?_
              show Steps p.tables e below (T32.setTop (mkF m 216 #[.val (.long q1), .second, .val (.int p2), .val (.int (1 : Int32)), .val (.ref b1), .val (.int (0 : Int32)), .val (.int (0 : Int32)), .val (.int (0 : Int32)), .val (.int (1 : Int32))] [(.ref b1)])) _
              refine XS.iloadN X32.here hx rfl (hb hby at_216) rfl ?_
              show Steps p.tables e below (T32.setTop (mkF m 217 #[.val (.long q1), .second, .val (.int p2), .val (.int (1 : Int32)), .val (.ref b1), .val (.int (0 : Int32)), .val (.int (0 : Int32)), .val (.int (0 : Int32)), .val (.int (1 : Int32))] [(.int (1 : Int32)), (.ref b1)])) _
              refine st87 _ ?_
              show Steps p.tables e below (T87.setTop (mkF m 220 #[.val (.long q1), .second, .val (.int p2), .val (.int (1 : Int32)), .val (.ref b1), .val (.int (0 : Int32)), .val (.int (0 : Int32)), .val (.int (0 : Int32)), .val (.int (1 : Int32))] [(.int (own_v1_f1 (nar .byte (own_b1 q1)) (nar .byte (own_b2 q1)) (nar .byte (own_b3 q1))))])) _
              refine XS.iload X87.here hx rfl (hb hby at_220) rfl ?_
              exact kt
            by_cases hc21 : (own_v1_f1 (nar .byte (own_b1 q1)) (nar .byte (own_b2 q1)) (nar .byte (own_b3 q1))) = (1 : Int32)
            ·
              obtain ⟨fs, hr, hrun, hended, hW, hsame⟩ := X87.leave (v := some (.int (1 : Int32))) (fun h => by rw [Bd.returns] at h; cases h)
              refine ⟨_, _, k89 _ ?_, hrun, hended, _, _, rfl, ?_, ⟨_, rfl⟩, hW, hsame.mono (by decide) (by decide)⟩
              · show Steps p.tables e below (T87.setTop (mkF m 222 #[.val (.long q1), .second, .val (.int p2), .val (.int (1 : Int32)), .val (.ref b1), .val (.int (0 : Int32)), .val (.int (0 : Int32)), .val (.int (0 : Int32)), .val (.int (1 : Int32))] [(.int (1 : Int32)), (.int (own_v1_f1 (nar .byte (own_b1 q1)) (nar .byte (own_b2 q1)) (nar .byte (own_b3 q1))))])) _
                refine XS.icmpNo X87.here hx rfl (hb hby at_222) rfl (teq hc21).2 ?_
                show Steps p.tables e below (T87.setTop (mkF m 225 #[.val (.long q1), .second, .val (.int p2), .val (.int (1 : Int32)), .val (.ref b1), .val (.int (0 : Int32)), .val (.int (0 : Int32)), .val (.int (0 : Int32)), .val (.int (1 : Int32))] [])) _
                refine XS.iconst X87.here hx rfl (hb hby at_225) ?_
                show Steps p.tables e below (T87.setTop (mkF m 226 #[.val (.long q1), .second, .val (.int p2), .val (.int (1 : Int32)), .val (.ref b1), .val (.int (0 : Int32)), .val (.int (0 : Int32)), .val (.int (0 : Int32)), .val (.int (1 : Int32))] [(.int (1 : Int32))])) _
                refine XS.goto X87.here hx rfl (pc0 := 226) (pc' := 230) rfl (hb hby at_226) (by decide) (by decide) ?_
                show Steps p.tables e below (T87.setTop (mkF m 230 #[.val (.long q1), .second, .val (.int p2), .val (.int (1 : Int32)), .val (.ref b1), .val (.int (0 : Int32)), .val (.int (0 : Int32)), .val (.int (0 : Int32)), .val (.int (1 : Int32))] [(.int (1 : Int32))])) _
                exact retN X87 hx (t := .boolean) Bd.returns (by simp) (hb hby at_230) hr
              · show own_Q0 Z q1 p2 h0 n0 _ T87.heap _
                rw [e87]
                exact ⟨(by rw [own_f0, if_neg hc1, if_pos hc17, if_pos hc18, if_pos hc19, if_pos hc20, if_pos hc21]), N88⟩
            ·
              obtain ⟨fs, hr, hrun, hended, hW, hsame⟩ := X87.leave (v := some (.int (0 : Int32))) (fun h => by rw [Bd.returns] at h; cases h)
              refine ⟨_, _, k89 _ ?_, hrun, hended, _, _, rfl, ?_, ⟨_, rfl⟩, hW, hsame.mono (by decide) (by decide)⟩
              · show Steps p.tables e below (T87.setTop (mkF m 222 #[.val (.long q1), .second, .val (.int p2), .val (.int (1 : Int32)), .val (.ref b1), .val (.int (0 : Int32)), .val (.int (0 : Int32)), .val (.int (0 : Int32)), .val (.int (1 : Int32))] [(.int (1 : Int32)), (.int (own_v1_f1 (nar .byte (own_b1 q1)) (nar .byte (own_b2 q1)) (nar .byte (own_b3 q1))))])) _
                refine XS.icmpYes X87.here hx rfl (pc0 := 222) (pc' := 229) rfl (hb hby at_222) rfl (feq hc21).2 (by decide) (by decide) ?_
                show Steps p.tables e below (T87.setTop (mkF m 229 #[.val (.long q1), .second, .val (.int p2), .val (.int (1 : Int32)), .val (.ref b1), .val (.int (0 : Int32)), .val (.int (0 : Int32)), .val (.int (0 : Int32)), .val (.int (1 : Int32))] [])) _
                refine XS.iconst X87.here hx rfl (hb hby at_229) ?_
                show Steps p.tables e below (T87.setTop (mkF m 230 #[.val (.long q1), .second, .val (.int p2), .val (.int (1 : Int32)), .val (.ref b1), .val (.int (0 : Int32)), .val (.int (0 : Int32)), .val (.int (0 : Int32)), .val (.int (1 : Int32))] [(.int (0 : Int32))])) _
                exact retN X87 hx (t := .boolean) Bd.returns (by simp) (hb hby at_230) hr
              · show own_Q0 Z q1 p2 h0 n0 _ T87.heap _
                rw [e87]
                exact ⟨(by rw [own_f0, if_neg hc1, if_pos hc17, if_pos hc18, if_pos hc19, if_pos hc20, if_neg hc21]), N88⟩
          ·
            obtain ⟨v90, _, ⟨T90, L90, k90, n90⟩, -, X90, ⟨Lc90, hQ90, l90, y90, z90⟩, st90⟩ := Jvm.LawKit.callS X32 hx (y := (⟨"com/example/castd/castd/mqtt/VariableByteInteger", "length", "([BI)I"⟩ : MethodName)) hown (mvT hZ (hw _ (List.mem_of_getElem? (i := 1) rfl))) (mvT hZ (hw _ (List.mem_of_getElem? (i := 2) rfl))) (mvT hZ (hw _ (List.mem_of_getElem? (i := 3) rfl))) (mvT hZ (hw _ (List.mem_of_getElem? (i := 4) rfl))) (by decide) (backOf (W := 0) (own_v1_rm1 l Z a0 hw [] b1 k1 (nar .byte (own_b0 q1)) (nar .byte (own_b1 q1)) (nar .byte (own_b2 q1)) (nar .byte (own_b3 q1)) (nar .byte (own_b4 q1)) (nar .byte (own_b5 q1)) (nar .byte (own_b6 q1)) (nar .byte (own_b7 q1)) h32 n0 Z34 V_b1_32 (by intro h1 h2 h3; first | contradiction | exact own_clr _)) hZ (hw _ (List.mem_of_getElem? (i := 4) rfl)) (hw _ (List.mem_of_getElem? (i := 3) rfl)) (by decide) (by decide)) (g := (mkF m 217 #[.val (.long q1), .second, .val (.int p2), .val (.int (1 : Int32)), .val (.ref b1), .val (.int (0 : Int32)), .val (.int (0 : Int32)), .val (.int (1 : Int32)), .val (.int (1 : Int32))] [(.int (1 : Int32)), (.ref b1)])) rfl (by rw [hml]; rfl) (argsL := [(.ref b1), (.int (1 : Int32))]) (rest := []) (lenOf own_pd25 rfl) rfl (by show 2 * 0 + _ ≤ _; exact Nat.le_of_eq rfl) (hb hby at_217) (fun _ _ => ⟨rfl, e32, (by decide : 1 + 0 ≤ _), (by decide : 8 + 0 ≤ _)⟩)
            dsimp only [Pt.U, Pt.locs, Pt.cells, Pt.slots] at X90 l90 y90 z90 st90 hQ90
            subst l90 y90 z90
            obtain ⟨rfl, N90q, e90⟩ := hQ90
            have N91 := Fr.app N33 N90q
            have k92 : ∀ t, Steps p.tables e below (T90.setTop (mkF m 222 #[.val (.long q1), .second, .val (.int p2), .val (.int (1 : Int32)), .val (.ref b1), .val (.int (0 : Int32)), .val (.int (0 : Int32)), .val (.int (1 : Int32)), .val (.int (1 : Int32))] [(.int (1 : Int32)), (.int (own_v1_f1 (nar .byte (own_b1 q1)) (nar .byte (own_b2 q1)) (nar .byte (own_b3 q1))))])) t → Steps p.tables e below (s₁.setTop (entryFrame m #[(.long q1), (.int p2)] maxLocals)) t := by
              intro t kt
              refine k86 t ?_
              show Steps p.tables e below (T32.setTop (mkF m 137 #[.val (.long q1), .second, .val (.int p2), .val (.int (1 : Int32)), .val (.ref b1), .val (.int (0 : Int32)), .val (.int (0 : Int32)), .unset, .unset] [(.int ((nar .byte (own_b3 q1)) &&& (128 : Int32)))])) _
              refine XS.ifNo X32.here hx rfl (hb hby at_137) rfl ((if0 _ _).trans (feq hc20).1) ?_
              show Steps p.tables e below (T32.setTop (mkF m 140 #[.val (.long q1), .second, .val (.int p2), .val (.int (1 : Int32)), .val (.ref b1), .val (.int (0 : Int32)), .val (.int (0 : Int32)), .unset, .unset] [])) _
              refine XS.iconst X32.here hx rfl (hb hby at_140) ?_
              show Steps p.tables e below (T32.setTop (mkF m 141 #[.val (.long q1), .second, .val (.int p2), .val (.int (1 : Int32)), .val (.ref b1), .val (.int (0 : Int32)), .val (.int (0 : Int32)), .unset, .unset] [(.int (1 : Int32))])) _
              refine XS.goto X32.here hx rfl (pc0 := 141) (pc' := 145) rfl (hb hby at_141) (by decide) (by decide) ?_
              show Steps p.tables e below (T32.setTop (mkF m 145 #[.val (.long q1), .second, .val (.int p2), .val (.int (1 : Int32)), .val (.ref b1), .val (.int (0 : Int32)), .val (.int (0 : Int32)), .unset, .unset] [(.int (1 : Int32))])) _
              refine XS.istore X32.here hx rfl (hb hby at_145) rfl (l' := #[.val (.long q1), .second, .val (.int p2), .val (.int (1 : Int32)), .val (.ref b1), .val (.int (0 : Int32)), .val (.int (0 : Int32)), .val (.int (1 : Int32)), .unset]) rfl ?_
              show Steps p.tables e below (T32.setTop (mkF m 147 #[.val (.long q1), .second, .val (.int p2), .val (.int (1 : Int32)), .val (.ref b1), .val (.int (0 : Int32)), .val (.int (0 : Int32)), .val (.int (1 : Int32)), .unset] [])) _
              refine XS.iload X32.here hx rfl (hb hby at_147) rfl ?_
              show Steps p.tables e below (T32.setTop (mkF m 149 #[.val (.long q1), .second, .val (.int p2), .val (.int (1 : Int32)), .val (.ref b1), .val (.int (0 : Int32)), .val (.int (0 : Int32)), .val (.int (1 : Int32)), .unset] [(.int (0 : Int32))])) _
              refine XS.ifYes X32.here hx rfl (pc0 := 149) (pc' := 178) rfl (hb hby at_149) rfl ((if0 _ _).trans (teq (by decide : (0 : Int32) = (0 : Int32))).1) (by decide) (by decide) ?_
              show Steps p.tables e below (T32.setTop (mkF m 178 #[.val (.long q1), .second, .val (.int p2), .val (.int (1 : Int32)), .val (.ref b1), .val (.int (0 : Int32)), .val (.int (0 : Int32)), .val (.int (1 : Int32)), .unset] [])) _
              refine XS.iload X32.here hx rfl (hb hby at_178) rfl ?_
              show Steps p.tables e below (T32.setTop (mkF m 180 #[.val (.long q1), .second, .val (.int p2), .val (.int (1 : Int32)), .val (.ref b1), .val (.int (0 : Int32)), .val (.int (0 : Int32)), .val (.int (1 : Int32)), .unset] [(.int (0 : Int32))])) _
              refine XS.ifNo X32.here hx rfl (hb hby at_180) rfl ((if0 _ _).trans (teq (by decide : (0 : Int32) = (0 : Int32))).2) ?_
              show Steps p.tables e below (T32.setTop (mkF m 183 #[.val (.long q1), .second, .val (.int p2), .val (.int (1 : Int32)), .val (.ref b1), .val (.int (0 : Int32)), .val (.int (0 : Int32)), .val (.int (1 : Int32)), .unset] [])) _
              refine XS.iconst X32.here hx rfl (hb hby at_183) ?_
              show Steps p.tables e below (T32.setTop (mkF m 184 #[.val (.long q1), .second, .val (.int p2), .val (.int (1 : Int32)), .val (.ref b1), .val (.int (0 : Int32)), .val (.int (0 : Int32)), .val (.int (1 : Int32)), .unset] [(.int (1 : Int32))])) _
              refine XS.istore X32.here hx rfl (hb hby at_184) rfl (l' := #[.val (.long q1), .second, .val (.int p2), .val (.int (1 : Int32)), .val (.ref b1), .val (.int (0 : Int32)), .val (.int (0 : Int32)), .val (.int (1 : Int32)), .val (.int (1 : Int32))]) rfl ?_
              show Steps p.tables e below (T32.setTop (mkF m 186 #[.val (.long q1), .second, .val (.int p2), .val (.int (1 : Int32)), .val (.ref b1), .val (.int (0 : Int32)), .val (.int (0 : Int32)), .val (.int (1 : Int32)), .val (.int (1 : Int32))] [])) _
              refine XS.goto X32.here hx rfl (pc0 := 186) (pc' := 214) rfl (hb hby at_186) (by decide) (by decide) ?_
              show Steps p.tables e below (T32.setTop (mkF m 214 #[.val (.long q1), .second, .val (.int p2), .val (.int (1 : Int32)), .val (.ref b1), .val (.int (0 : Int32)), .val (.int (0 : Int32)), .val (.int (1 : Int32)), .val (.int (1 : Int32))] [])) _
              refine XS.aload X32.here hx rfl (hb hby at_214) rfl rfl ?_
              show Steps p.tables e below (T32.setTop (mkF m 216 #[.val (.long q1), .second, .val (.int p2), .val (.int (1 : Int32)), .val (.ref b1), .val (.int (0 : Int32)), .val (.int (0 : Int32)), .val (.int (1 : Int32)), .val (.int (1 : Int32))] [(.ref b1)])) _
              refine XS.iloadN X32.here hx rfl (hb hby at_216) rfl ?_
              show Steps p.tables e below (T32.setTop (mkF m 217 #[.val (.long q1), .second, .val (.int p2), .val (.int (1 : Int32)), .val (.ref b1), .val (.int (0 : Int32)), .val (.int (0 : Int32)), .val (.int (1 : Int32)), .val (.int (1 : Int32))] [(.int (1 : Int32)), (.ref b1)])) _
              refine st90 _ ?_
              show Steps p.tables e below (T90.setTop (mkF m 220 #[.val (.long q1), .second, .val (.int p2), .val (.int (1 : Int32)), .val (.ref b1), .val (.int (0 : Int32)), .val (.int (0 : Int32)), .val (.int (1 : Int32)), .val (.int (1 : Int32))] [(.int (own_v1_f1 (nar .byte (own_b1 q1)) (nar .byte (own_b2 q1)) (nar .byte (own_b3 q1))))])) _
              refine XS.iload X90.here hx rfl (hb hby at_220) rfl ?_
              exact kt
            by_cases hc22 : (own_v1_f1 (nar .byte (own_b1 q1)) (nar .byte (own_b2 q1)) (nar .byte (own_b3 q1))) = (1 : Int32)
            ·
              obtain ⟨fs, hr, hrun, hended, hW, hsame⟩ := X90.leave (v := some (.int (1 : Int32))) (fun h => by rw [Bd.returns] at h; cases h)
              refine ⟨_, _, k92 _ ?_, hrun, hended, _, _, rfl, ?_, ⟨_, rfl⟩, hW, hsame.mono (by decide) (by decide)⟩
              · show Steps p.tables e below (T90.setTop (mkF m 222 #[.val (.long q1), .second, .val (.int p2), .val (.int (1 : Int32)), .val (.ref b1), .val (.int (0 : Int32)), .val (.int (0 : Int32)), .val (.int (1 : Int32)), .val (.int (1 : Int32))] [(.int (1 : Int32)), (.int (own_v1_f1 (nar .byte (own_b1 q1)) (nar .byte (own_b2 q1)) (nar .byte (own_b3 q1))))])) _
                refine XS.icmpNo X90.here hx rfl (hb hby at_222) rfl (teq hc22).2 ?_
                show Steps p.tables e below (T90.setTop (mkF m 225 #[.val (.long q1), .second, .val (.int p2), .val (.int (1 : Int32)), .val (.ref b1), .val (.int (0 : Int32)), .val (.int (0 : Int32)), .val (.int (1 : Int32)), .val (.int (1 : Int32))] [])) _
                refine XS.iconst X90.here hx rfl (hb hby at_225) ?_
                show Steps p.tables e below (T90.setTop (mkF m 226 #[.val (.long q1), .second, .val (.int p2), .val (.int (1 : Int32)), .val (.ref b1), .val (.int (0 : Int32)), .val (.int (0 : Int32)), .val (.int (1 : Int32)), .val (.int (1 : Int32))] [(.int (1 : Int32))])) _
                refine XS.goto X90.here hx rfl (pc0 := 226) (pc' := 230) rfl (hb hby at_226) (by decide) (by decide) ?_
                show Steps p.tables e below (T90.setTop (mkF m 230 #[.val (.long q1), .second, .val (.int p2), .val (.int (1 : Int32)), .val (.ref b1), .val (.int (0 : Int32)), .val (.int (0 : Int32)), .val (.int (1 : Int32)), .val (.int (1 : Int32))] [(.int (1 : Int32))])) _
                exact retN X90 hx (t := .boolean) Bd.returns (by simp) (hb hby at_230) hr
              · show own_Q0 Z q1 p2 h0 n0 _ T90.heap _
                rw [e90]
                exact ⟨(by rw [own_f0, if_neg hc1, if_pos hc17, if_pos hc18, if_pos hc19, if_neg hc20, if_pos hc22]), N91⟩
            ·
              obtain ⟨fs, hr, hrun, hended, hW, hsame⟩ := X90.leave (v := some (.int (0 : Int32))) (fun h => by rw [Bd.returns] at h; cases h)
              refine ⟨_, _, k92 _ ?_, hrun, hended, _, _, rfl, ?_, ⟨_, rfl⟩, hW, hsame.mono (by decide) (by decide)⟩
              · show Steps p.tables e below (T90.setTop (mkF m 222 #[.val (.long q1), .second, .val (.int p2), .val (.int (1 : Int32)), .val (.ref b1), .val (.int (0 : Int32)), .val (.int (0 : Int32)), .val (.int (1 : Int32)), .val (.int (1 : Int32))] [(.int (1 : Int32)), (.int (own_v1_f1 (nar .byte (own_b1 q1)) (nar .byte (own_b2 q1)) (nar .byte (own_b3 q1))))])) _
                refine XS.icmpYes X90.here hx rfl (pc0 := 222) (pc' := 229) rfl (hb hby at_222) rfl (feq hc22).2 (by decide) (by decide) ?_
                show Steps p.tables e below (T90.setTop (mkF m 229 #[.val (.long q1), .second, .val (.int p2), .val (.int (1 : Int32)), .val (.ref b1), .val (.int (0 : Int32)), .val (.int (0 : Int32)), .val (.int (1 : Int32)), .val (.int (1 : Int32))] [])) _
                refine XS.iconst X90.here hx rfl (hb hby at_229) ?_
                show Steps p.tables e below (T90.setTop (mkF m 230 #[.val (.long q1), .second, .val (.int p2), .val (.int (1 : Int32)), .val (.ref b1), .val (.int (0 : Int32)), .val (.int (0 : Int32)), .val (.int (1 : Int32)), .val (.int (1 : Int32))] [(.int (0 : Int32))])) _
                exact retN X90 hx (t := .boolean) Bd.returns (by simp) (hb hby at_230) hr
              · show own_Q0 Z q1 p2 h0 n0 _ T90.heap _
                rw [e90]
                exact ⟨(by rw [own_f0, if_neg hc1, if_pos hc17, if_pos hc18, if_pos hc19, if_neg hc20, if_neg hc22]), N91⟩
        ·
          obtain ⟨cl93, Ar93, qk93, Sz93, Nn93, Hs93, Gf93⟩ := id V_b1_32
          have hin93 : ¬ ((3 : Int32) < 0 ∨ cl93.slots.size ≤ ((3 : Int32)).toNatClampNeg) := inb_of Sz93 ⟨by decide, by decide⟩
          have hat93 : cl93.slots[((3 : Int32)).toNatClampNeg]? = some (.int (nar .byte (own_b3 q1))) := Has.at Hs93 hin93 rfl
          have k94 : ∀ t, Steps p.tables e below (T32.setTop (mkF m 137 #[.val (.long q1), .second, .val (.int p2), .val (.int (1 : Int32)), .val (.ref b1), .val (.int (0 : Int32)), .val (.int (1 : Int32)), .unset, .unset] [(.int ((nar .byte (own_b3 q1)) &&& (128 : Int32)))])) t → Steps p.tables e below (s₁.setTop (entryFrame m #[(.long q1), (.int p2)] maxLocals)) t := by
            intro t kt
            refine k84 t ?_
            show Steps p.tables e below (T32.setTop (mkF m 117 #[.val (.long q1), .second, .val (.int p2), .val (.int (1 : Int32)), .val (.ref b1), .val (.int (0 : Int32)), .unset, .unset, .unset] [(.int ((nar .byte (own_b2 q1)) &&& (128 : Int32)))])) _
            refine XS.ifNo X32.here hx rfl (hb hby at_117) rfl ((if0 _ _).trans (feq hc19).1) ?_
            show Steps p.tables e below (T32.setTop (mkF m 120 #[.val (.long q1), .second, .val (.int p2), .val (.int (1 : Int32)), .val (.ref b1), .val (.int (0 : Int32)), .unset, .unset, .unset] [])) _
            refine XS.iconst X32.here hx rfl (hb hby at_120) ?_
            show Steps p.tables e below (T32.setTop (mkF m 121 #[.val (.long q1), .second, .val (.int p2), .val (.int (1 : Int32)), .val (.ref b1), .val (.int (0 : Int32)), .unset, .unset, .unset] [(.int (1 : Int32))])) _
            refine XS.goto X32.here hx rfl (pc0 := 121) (pc' := 125) rfl (hb hby at_121) (by decide) (by decide) ?_
            show Steps p.tables e below (T32.setTop (mkF m 125 #[.val (.long q1), .second, .val (.int p2), .val (.int (1 : Int32)), .val (.ref b1), .val (.int (0 : Int32)), .unset, .unset, .unset] [(.int (1 : Int32))])) _
            refine XS.istore X32.here hx rfl (hb hby at_125) rfl (l' := #[.val (.long q1), .second, .val (.int p2), .val (.int (1 : Int32)), .val (.ref b1), .val (.int (0 : Int32)), .val (.int (1 : Int32)), .unset, .unset]) rfl ?_
            show Steps p.tables e below (T32.setTop (mkF m 127 #[.val (.long q1), .second, .val (.int p2), .val (.int (1 : Int32)), .val (.ref b1), .val (.int (0 : Int32)), .val (.int (1 : Int32)), .unset, .unset] [])) _
            refine XS.aload X32.here hx rfl (hb hby at_127) rfl rfl ?_
            show Steps p.tables e below (T32.setTop (mkF m 129 #[.val (.long q1), .second, .val (.int p2), .val (.int (1 : Int32)), .val (.ref b1), .val (.int (0 : Int32)), .val (.int (1 : Int32)), .unset, .unset] [(.ref b1)])) _
            refine XS.iloadN X32.here hx rfl (hb hby at_129) rfl ?_
            show Steps p.tables e below (T32.setTop (mkF m 130 #[.val (.long q1), .second, .val (.int p2), .val (.int (1 : Int32)), .val (.ref b1), .val (.int (0 : Int32)), .val (.int (1 : Int32)), .unset, .unset] [(.int (1 : Int32)), (.ref b1)])) _
            refine XS.iconst X32.here hx rfl (hb hby at_130) ?_
            show Steps p.tables e below (T32.setTop (mkF m 131 #[.val (.long q1), .second, .val (.int p2), .val (.int (1 : Int32)), .val (.ref b1), .val (.int (0 : Int32)), .val (.int (1 : Int32)), .unset, .unset] [(.int (2 : Int32)), (.int (1 : Int32)), (.ref b1)])) _
            refine XS.iadd X32.here hx rfl (hb hby at_131) rfl ?_
            show Steps p.tables e below (T32.setTop (mkF m 132 #[.val (.long q1), .second, .val (.int p2), .val (.int (1 : Int32)), .val (.ref b1), .val (.int (0 : Int32)), .val (.int (1 : Int32)), .unset, .unset] [(.int (3 : Int32)), (.ref b1)])) _
            refine X32.baloadBytes hx (j := (3 : Int32)) (v := (.int (nar .byte (own_b3 q1)))) (by rw [e32]; exact Ar93.1) (State.isArrayOf_alike hZ.alike Ar93.2.1) Ar93.2.2 hin93 hat93 (g := (mkF m 132 #[.val (.long q1), .second, .val (.int p2), .val (.int (1 : Int32)), .val (.ref b1), .val (.int (0 : Int32)), .val (.int (1 : Int32)), .unset, .unset] [(.int (3 : Int32)), (.ref b1)])) rfl rfl (hb hby at_132) _ ?_
            show Steps p.tables e below (T32.setTop (mkF m 133 #[.val (.long q1), .second, .val (.int p2), .val (.int (1 : Int32)), .val (.ref b1), .val (.int (0 : Int32)), .val (.int (1 : Int32)), .unset, .unset] [(.int (nar .byte (own_b3 q1)))])) _
            refine XS.sipush X32.here hx rfl (hb hby at_133) ?_
            show Steps p.tables e below (T32.setTop (mkF m 136 #[.val (.long q1), .second, .val (.int p2), .val (.int (1 : Int32)), .val (.ref b1), .val (.int (0 : Int32)), .val (.int (1 : Int32)), .unset, .unset] [(.int (128 : Int32)), (.int (nar .byte (own_b3 q1)))])) _
            refine XS.iand X32.here hx rfl (hb hby at_136) rfl ?_
            exact kt
          by_cases hc23 : ((nar .byte (own_b3 q1)) &&& (128 : Int32)) = (0 : Int32)
          ·
            obtain ⟨v95, _, ⟨T95, L95, k95, n95⟩, -, X95, ⟨Lc95, hQ95, l95, y95, z95⟩, st95⟩ := Jvm.LawKit.callS X32 hx (y := (⟨"com/example/castd/castd/mqtt/VariableByteInteger", "length", "([BI)I"⟩ : MethodName)) hown (mvT hZ (hw _ (List.mem_of_getElem? (i := 1) rfl))) (mvT hZ (hw _ (List.mem_of_getElem? (i := 2) rfl))) (mvT hZ (hw _ (List.mem_of_getElem? (i := 3) rfl))) (mvT hZ (hw _ (List.mem_of_getElem? (i := 4) rfl))) (by decide) (backOf (W := 0) (own_v1_rm1 l Z a0 hw [] b1 k1 (nar .byte (own_b0 q1)) (nar .byte (own_b1 q1)) (nar .byte (own_b2 q1)) (nar .byte (own_b3 q1)) (nar .byte (own_b4 q1)) (nar .byte (own_b5 q1)) (nar .byte (own_b6 q1)) (nar .byte (own_b7 q1)) h32 n0 Z34 V_b1_32 (by intro h1 h2 h3; first | contradiction | exact own_clr _)) hZ (hw _ (List.mem_of_getElem? (i := 4) rfl)) (hw _ (List.mem_of_getElem? (i := 3) rfl)) (by decide) (by decide)) (g := (mkF m 217 #[.val (.long q1), .second, .val (.int p2), .val (.int (1 : Int32)), .val (.ref b1), .val (.int (0 : Int32)), .val (.int (1 : Int32)), .val (.int (0 : Int32)), .val (.int (1 : Int32))] [(.int (1 : Int32)), (.ref b1)])) rfl (by rw [hml]; rfl) (argsL := [(.ref b1), (.int (1 : Int32))]) (rest := []) (lenOf own_pd25 rfl) rfl (by show 2 * 0 + _ ≤ _; exact Nat.le_of_eq rfl) (hb hby at_217) (fun _ _ => ⟨rfl, e32, (by decide : 1 + 0 ≤ _), (by decide : 8 + 0 ≤ _)⟩)
            dsimp only [Pt.U, Pt.locs, Pt.cells, Pt.slots] at X95 l95 y95 z95 st95 hQ95
            subst l95 y95 z95
            obtain ⟨rfl, N95q, e95⟩ := hQ95
            have N96 := Fr.app N33 N95q
            have k97 : ∀ t, Steps p.tables e below (T95.setTop (mkF m 222 #[.val (.long q1), .second, .val (.int p2), .val (.int (1 : Int32)), .val (.ref b1), .val (.int (0 : Int32)), .val (.int (1 : Int32)), .val (.int (0 : Int32)), .val (.int (1 : Int32))] [(.int (1 : Int32)), (.int (own_v1_f1 (nar .byte (own_b1 q1)) (nar .byte (own_b2 q1)) (nar .byte (own_b3 q1))))])) t → Steps p.tables e below (s₁.setTop (entryFrame m #[(.long q1), (.int p2)] maxLocals)) t := by
              intro t kt
              refine k94 t ?_
              show Steps p.tables e below (T32.setTop (mkF m 137 #[.val (.long q1), .second, .val (.int p2), .val (.int (1 : Int32)), .val (.ref b1), .val (.int (0 : Int32)), .val (.int (1 : Int32)), .unset, .unset] [(.int ((nar .byte (own_b3 q1)) &&& (128 : Int32)))])) _
              refine XS.ifYes X32.here hx rfl (pc0 := 137) (pc' := 144) rfl (hb hby at_137) rfl ((if0 _ _).trans (teq hc23).1) (by decide) (by decide) ?_
              show Steps p.tables e below (T32.setTop (mkF m 144 #[.val (.long q1), .second, .val (.int p2), .val (.int (1 : Int32)), .val (.ref b1), .val (.int (0 : Int32)), .val (.int (1 : Int32)), .unset, .unset] [])) _
              refine XS.iconst X32.here hx rfl (hb hby at_144) ?_
              show Steps p.tables e below (T32.setTop (mkF m 145 #[.val (.long q1), .second, .val (.int p2), .val (.int (1 : Int32)), .val (.ref b1), .val (.int (0 : Int32)), .val (.int (1 : Int32)), .unset, .unset] [(.int (0 : Int32))])) _
              refine XS.istore X32.here hx rfl (hb hby at_145) rfl (l' := #[.val (.long q1), .second, .val (.int p2), .val (.int (1 : Int32)), .val (.ref b1), .val (.int (0 : Int32)), .val (.int (1 : Int32)), .val (.int (0 : Int32)), .unset]) rfl ?_
              show Steps p.tables e below (T32.setTop (mkF m 147 #[.val (.long q1), .second, .val (.int p2), .val (.int (1 : Int32)), .val (.ref b1), .val (.int (0 : Int32)), .val (.int (1 : Int32)), .val (.int (0 : Int32)), .unset] [])) _
              refine XS.iload X32.here hx rfl (hb hby at_147) rfl ?_
              show Steps p.tables e below (T32.setTop (mkF m 149 #[.val (.long q1), .second, .val (.int p2), .val (.int (1 : Int32)), .val (.ref b1), .val (.int (0 : Int32)), .val (.int (1 : Int32)), .val (.int (0 : Int32)), .unset] [(.int (0 : Int32))])) _
              refine XS.ifYes X32.here hx rfl (pc0 := 149) (pc' := 178) rfl (hb hby at_149) rfl ((if0 _ _).trans (teq (by decide : (0 : Int32) = (0 : Int32))).1) (by decide) (by decide) ?_
              show Steps p.tables e below (T32.setTop (mkF m 178 #[.val (.long q1), .second, .val (.int p2), .val (.int (1 : Int32)), .val (.ref b1), .val (.int (0 : Int32)), .val (.int (1 : Int32)), .val (.int (0 : Int32)), .unset] [])) _
              refine XS.iload X32.here hx rfl (hb hby at_178) rfl ?_
              show Steps p.tables e below (T32.setTop (mkF m 180 #[.val (.long q1), .second, .val (.int p2), .val (.int (1 : Int32)), .val (.ref b1), .val (.int (0 : Int32)), .val (.int (1 : Int32)), .val (.int (0 : Int32)), .unset] [(.int (0 : Int32))])) _
              refine XS.ifNo X32.here hx rfl (hb hby at_180) rfl ((if0 _ _).trans (teq (by decide : (0 : Int32) = (0 : Int32))).2) ?_
              show Steps p.tables e below (T32.setTop (mkF m 183 #[.val (.long q1), .second, .val (.int p2), .val (.int (1 : Int32)), .val (.ref b1), .val (.int (0 : Int32)), .val (.int (1 : Int32)), .val (.int (0 : Int32)), .unset] [])) _
              refine XS.iconst X32.here hx rfl (hb hby at_183) ?_
              show Steps p.tables e below (T32.setTop (mkF m 184 #[.val (.long q1), .second, .val (.int p2), .val (.int (1 : Int32)), .val (.ref b1), .val (.int (0 : Int32)), .val (.int (1 : Int32)), .val (.int (0 : Int32)), .unset] [(.int (1 : Int32))])) _
              refine XS.istore X32.here hx rfl (hb hby at_184) rfl (l' := #[.val (.long q1), .second, .val (.int p2), .val (.int (1 : Int32)), .val (.ref b1), .val (.int (0 : Int32)), .val (.int (1 : Int32)), .val (.int (0 : Int32)), .val (.int (1 : Int32))]) rfl ?_
              show Steps p.tables e below (T32.setTop (mkF m 186 #[.val (.long q1), .second, .val (.int p2), .val (.int (1 : Int32)), .val (.ref b1), .val (.int (0 : Int32)), .val (.int (1 : Int32)), .val (.int (0 : Int32)), .val (.int (1 : Int32))] [])) _
              refine XS.goto X32.here hx rfl (pc0 := 186) (pc' := 214) rfl (hb hby at_186) (by decide) (by decide) ?_
              show Steps p.tables e below (T32.setTop (mkF m 214 #[.val (.long q1), .second, .val (.int p2), .val (.int (1 : Int32)), .val (.ref b1), .val (.int (0 : Int32)), .val (.int (1 : Int32)), .val (.int (0 : Int32)), .val (.int (1 : Int32))] [])) _
              refine XS.aload X32.here hx rfl (hb hby at_214) rfl rfl ?_
              show Steps p.tables e below (T32.setTop (mkF m 216 #[.val (.long q1), .second, .val (.int p2), .val (.int (1 : Int32)), .val (.ref b1), .val (.int (0 : Int32)), .val (.int (1 : Int32)), .val (.int (0 : Int32)), .val (.int (1 : Int32))] [(.ref b1)])) _
              refine XS.iloadN X32.here hx rfl (hb hby at_216) rfl ?_
              show Steps p.tables e below (T32.setTop (mkF m 217 #[.val (.long q1), .second, .val (.int p2), .val (.int (1 : Int32)), .val (.ref b1), .val (.int (0 : Int32)), .val (.int (1 : Int32)), .val (.int (0 : Int32)), .val (.int (1 : Int32))] [(.int (1 : Int32)), (.ref b1)])) _
              refine st95 _ ?_
              show Steps p.tables e below (T95.setTop (mkF m 220 #[.val (.long q1), .second, .val (.int p2), .val (.int (1 : Int32)), .val (.ref b1), .val (.int (0 : Int32)), .val (.int (1 : Int32)), .val (.int (0 : Int32)), .val (.int (1 : Int32))] [(.int (own_v1_f1 (nar .byte (own_b1 q1)) (nar .byte (own_b2 q1)) (nar .byte (own_b3 q1))))])) _
              refine XS.iload X95.here hx rfl (hb hby at_220) rfl ?_
              exact kt
            by_cases hc24 : (own_v1_f1 (nar .byte (own_b1 q1)) (nar .byte (own_b2 q1)) (nar .byte (own_b3 q1))) = (1 : Int32)
            ·
              obtain ⟨fs, hr, hrun, hended, hW, hsame⟩ := X95.leave (v := some (.int (1 : Int32))) (fun h => by rw [Bd.returns] at h; cases h)
              refine ⟨_, _, k97 _ ?_, hrun, hended, _, _, rfl, ?_, ⟨_, rfl⟩, hW, hsame.mono (by decide) (by decide)⟩
              · show Steps p.tables e below (T95.setTop (mkF m 222 #[.val (.long q1), .second, .val (.int p2), .val (.int (1 : Int32)), .val (.ref b1), .val (.int (0 : Int32)), .val (.int (1 : Int32)), .val (.int (0 : Int32)), .val (.int (1 : Int32))] [(.int (1 : Int32)), (.int (own_v1_f1 (nar .byte (own_b1 q1)) (nar .byte (own_b2 q1)) (nar .byte (own_b3 q1))))])) _
                refine XS.icmpNo X95.here hx rfl (hb hby at_222) rfl (teq hc24).2 ?_
                show Steps p.tables e below (T95.setTop (mkF m 225 #[.val (.long q1), .second, .val (.int p2), .val (.int (1 : Int32)), .val (.ref b1), .val (.int (0 : Int32)), .val (.int (1 : Int32)), .val (.int (0 : Int32)), .val (.int (1 : Int32))] [])) _
                refine XS.iconst X95.here hx rfl (hb hby at_225) ?_
                show Steps p.tables e below (T95.setTop (mkF m 226 #[.val (.long q1), .second, .val (.int p2), .val (.int (1 : Int32)), .val (.ref b1), .val (.int (0 : Int32)), .val (.int (1 : Int32)), .val (.int (0 : Int32)), .val (.int (1 : Int32))] [(.int (1 : Int32))])) _
                refine XS.goto X95.here hx rfl (pc0 := 226) (pc' := 230) rfl (hb hby at_226) (by decide) (by decide) ?_
                show Steps p.tables e below (T95.setTop (mkF m 230 #[.val (.long q1), .second, .val (.int p2), .val (.int (1 : Int32)), .val (.ref b1), .val (.int (0 : Int32)), .val (.int (1 : Int32)), .val (.int (0 : Int32)), .val (.int (1 : Int32))] [(.int (1 : Int32))])) _
                exact retN X95 hx (t := .boolean) Bd.returns (by simp) (hb hby at_230) hr
              · show own_Q0 Z q1 p2 h0 n0 _ T95.heap _
                rw [e95]
                exact ⟨(by rw [own_f0, if_neg hc1, if_pos hc17, if_pos hc18, if_neg hc19, if_pos hc23, if_pos hc24]), N96⟩
            ·
              obtain ⟨fs, hr, hrun, hended, hW, hsame⟩ := X95.leave (v := some (.int (0 : Int32))) (fun h => by rw [Bd.returns] at h; cases h)
              refine ⟨_, _, k97 _ ?_, hrun, hended, _, _, rfl, ?_, ⟨_, rfl⟩, hW, hsame.mono (by decide) (by decide)⟩
              · show Steps p.tables e below (T95.setTop (mkF m 222 #[.val (.long q1), .second, .val (.int p2), .val (.int (1 : Int32)), .val (.ref b1), .val (.int (0 : Int32)), .val (.int (1 : Int32)), .val (.int (0 : Int32)), .val (.int (1 : Int32))] [(.int (1 : Int32)), (.int (own_v1_f1 (nar .byte (own_b1 q1)) (nar .byte (own_b2 q1)) (nar .byte (own_b3 q1))))])) _
                refine XS.icmpYes X95.here hx rfl (pc0 := 222) (pc' := 229) rfl (hb hby at_222) rfl (feq hc24).2 (by decide) (by decide) ?_
                show Steps p.tables e below (T95.setTop (mkF m 229 #[.val (.long q1), .second, .val (.int p2), .val (.int (1 : Int32)), .val (.ref b1), .val (.int (0 : Int32)), .val (.int (1 : Int32)), .val (.int (0 : Int32)), .val (.int (1 : Int32))] [])) _
                refine XS.iconst X95.here hx rfl (hb hby at_229) ?_
                show Steps p.tables e below (T95.setTop (mkF m 230 #[.val (.long q1), .second, .val (.int p2), .val (.int (1 : Int32)), .val (.ref b1), .val (.int (0 : Int32)), .val (.int (1 : Int32)), .val (.int (0 : Int32)), .val (.int (1 : Int32))] [(.int (0 : Int32))])) _
                exact retN X95 hx (t := .boolean) Bd.returns (by simp) (hb hby at_230) hr
              · show own_Q0 Z q1 p2 h0 n0 _ T95.heap _
                rw [e95]
                exact ⟨(by rw [own_f0, if_neg hc1, if_pos hc17, if_pos hc18, if_neg hc19, if_pos hc23, if_neg hc24]), N96⟩
          ·
            obtain ⟨v98, _, ⟨T98, L98, k98, n98⟩, -, X98, ⟨Lc98, hQ98, l98, y98, z98⟩, st98⟩ := Jvm.LawKit.callS X32 hx (y := (⟨"com/example/castd/castd/mqtt/VariableByteInteger", "length", "([BI)I"⟩ : MethodName)) hown (mvT hZ (hw _ (List.mem_of_getElem? (i := 1) rfl))) (mvT hZ (hw _ (List.mem_of_getElem? (i := 2) rfl))) (mvT hZ (hw _ (List.mem_of_getElem? (i := 3) rfl))) (mvT hZ (hw _ (List.mem_of_getElem? (i := 4) rfl))) (by decide) (backOf (W := 0) (own_v1_rm1 l Z a0 hw [] b1 k1 (nar .byte (own_b0 q1)) (nar .byte (own_b1 q1)) (nar .byte (own_b2 q1)) (nar .byte (own_b3 q1)) (nar .byte (own_b4 q1)) (nar .byte (own_b5 q1)) (nar .byte (own_b6 q1)) (nar .byte (own_b7 q1)) h32 n0 Z34 V_b1_32 (by intro h1 h2 h3; first | contradiction | exact own_clr _)) hZ (hw _ (List.mem_of_getElem? (i := 4) rfl)) (hw _ (List.mem_of_getElem? (i := 3) rfl)) (by decide) (by decide)) (g := (mkF m 217 #[.val (.long q1), .second, .val (.int p2), .val (.int (1 : Int32)), .val (.ref b1), .val (.int (0 : Int32)), .val (.int (1 : Int32)), .val (.int (1 : Int32)), .val (.int (1 : Int32))] [(.int (1 : Int32)), (.ref b1)])) rfl (by rw [hml]; rfl) (argsL := [(.ref b1), (.int (1 : Int32))]) (rest := []) (lenOf own_pd25 rfl) rfl (by show 2 * 0 + _ ≤ _; exact Nat.le_of_eq rfl) (hb hby at_217) (fun _ _ => ⟨rfl, e32, (by decide : 1 + 0 ≤ _), (by decide : 8 + 0 ≤ _)⟩)
            dsimp only [Pt.U, Pt.locs, Pt.cells, Pt.slots] at X98 l98 y98 z98 st98 hQ98
            subst l98 y98 z98
            obtain ⟨rfl, N98q, e98⟩ := hQ98
            have N99 := Fr.app N33 N98q
            have k100 : ∀ t, Steps p.tables e below (T98.setTop (mkF m 222 #[.val (.long q1), .second, .val (.int p2), .val (.int (1 : Int32)), .val (.ref b1), .val (.int (0 : Int32)), .val (.int (1 : Int32)), .val (.int (1 : Int32)), .val (.int (1 : Int32))] [(.int (1 : Int32)), (.int (own_v1_f1 (nar .byte (own_b1 q1)) (nar .byte (own_b2 q1)) (nar .byte (own_b3 q1))))])) t → Steps p.tables e below (s₁.setTop (entryFrame m #[(.long q1), (.int p2)] maxLocals)) t := by
              intro t kt
              refine k94 t ?_
              show Steps p.tables e below (T32.setTop (mkF m 137 #[.val (.long q1), .second, .val (.int p2), .val (.int (1 : Int32)), .val (.ref b1), .val (.int (0 : Int32)), .val (.int (1 : Int32)), .unset, .unset] [(.int ((nar .byte (own_b3 q1)) &&& (128 : Int32)))])) _
              refine XS.ifNo X32.here hx rfl (hb hby at_137) rfl ((if0 _ _).trans (feq hc23).1) ?_
              show Steps p.tables e below (T32.setTop (mkF m 140 #[.val (.long q1), .second, .val (.int p2), .val (.int (1 : Int32)), .val (.ref b1), .val (.int (0 : Int32)), .val (.int (1 : Int32)), .unset, .unset] [])) _
              refine XS.iconst X32.here hx rfl (hb hby at_140) ?_
              show Steps p.tables e below (T32.setTop (mkF m 141 #[.val (.long q1), .second, .val (.int p2), .val (.int (1 : Int32)), .val (.ref b1), .val (.int (0 : Int32)), .val (.int (1 : Int32)), .unset, .unset] [(.int (1 : Int32))])) _
              refine XS.goto X32.here hx rfl (pc0 := 141) (pc' := 145) rfl (hb hby at_141) (by decide) (by decide) ?_
              show Steps p.tables e below (T32.setTop (mkF m 145 #[.val (.long q1), .second, .val (.int p2), .val (.int (1 : Int32)), .val (.ref b1), .val (.int (0 : Int32)), .val (.int (1 : Int32)), .unset, .unset] [(.int (1 : Int32))])) _
              refine XS.istore X32.here hx rfl (hb hby at_145) rfl (l' := #[.val (.long q1), .second, .val (.int p2), .val (.int (1 : Int32)), .val (.ref b1), .val (.int (0 : Int32)), .val (.int (1 : Int32)), .val (.int (1 : Int32)), .unset]) rfl ?_
              show Steps p.tables e below (T32.setTop (mkF m 147 #[.val (.long q1), .second, .val (.int p2), .val (.int (1 : Int32)), .val (.ref b1), .val (.int (0 : Int32)), .val (.int (1 : Int32)), .val (.int (1 : Int32)), .unset] [])) _
              refine XS.iload X32.here hx rfl (hb hby at_147) rfl ?_
              show Steps p.tables e below (T32.setTop (mkF m 149 #[.val (.long q1), .second, .val (.int p2), .val (.int (1 : Int32)), .val (.ref b1), .val (.int (0 : Int32)), .val (.int (1 : Int32)), .val (.int (1 : Int32)), .unset] [(.int (0 : Int32))])) _
              refine XS.ifYes X32.here hx rfl (pc0 := 149) (pc' := 178) rfl (hb hby at_149) rfl ((if0 _ _).trans (teq (by decide : (0 : Int32) = (0 : Int32))).1) (by decide) (by decide) ?_
              show Steps p.tables e below (T32.setTop (mkF m 178 #[.val (.long q1), .second, .val (.int p2), .val (.int (1 : Int32)), .val (.ref b1), .val (.int (0 : Int32)), .val (.int (1 : Int32)), .val (.int (1 : Int32)), .unset] [])) _
              refine XS.iload X32.here hx rfl (hb hby at_178) rfl ?_
              show Steps p.tables e below (T32.setTop (mkF m 180 #[.val (.long q1), .second, .val (.int p2), .val (.int (1 : Int32)), .val (.ref b1), .val (.int (0 : Int32)), .val (.int (1 : Int32)), .val (.int (1 : Int32)), .unset] [(.int (0 : Int32))])) _
              refine XS.ifNo X32.here hx rfl (hb hby at_180) rfl ((if0 _ _).trans (teq (by decide : (0 : Int32) = (0 : Int32))).2) ?_
              show Steps p.tables e below (T32.setTop (mkF m 183 #[.val (.long q1), .second, .val (.int p2), .val (.int (1 : Int32)), .val (.ref b1), .val (.int (0 : Int32)), .val (.int (1 : Int32)), .val (.int (1 : Int32)), .unset] [])) _
              refine XS.iconst X32.here hx rfl (hb hby at_183) ?_
              show Steps p.tables e below (T32.setTop (mkF m 184 #[.val (.long q1), .second, .val (.int p2), .val (.int (1 : Int32)), .val (.ref b1), .val (.int (0 : Int32)), .val (.int (1 : Int32)), .val (.int (1 : Int32)), .unset] [(.int (1 : Int32))])) _
              refine XS.istore X32.here hx rfl (hb hby at_184) rfl (l' := #[.val (.long q1), .second, .val (.int p2), .val (.int (1 : Int32)), .val (.ref b1), .val (.int (0 : Int32)), .val (.int (1 : Int32)), .val (.int (1 : Int32)), .val (.int (1 : Int32))]) rfl ?_
              show Steps p.tables e below (T32.setTop (mkF m 186 #[.val (.long q1), .second, .val (.int p2), .val (.int (1 : Int32)), .val (.ref b1), .val (.int (0 : Int32)), .val (.int (1 : Int32)), .val (.int (1 : Int32)), .val (.int (1 : Int32))] [])) _
              refine XS.goto X32.here hx rfl (pc0 := 186) (pc' := 214) rfl (hb hby at_186) (by decide) (by decide) ?_
              show Steps p.tables e below (T32.setTop (mkF m 214 #[.val (.long q1), .second, .val (.int p2), .val (.int (1 : Int32)), .val (.ref b1), .val (.int (0 : Int32)), .val (.int (1 : Int32)), .val (.int (1 : Int32)), .val (.int (1 : Int32))] [])) _
              refine XS.aload X32.here hx rfl (hb hby at_214) rfl rfl ?_
              show Steps p.tables e below (T32.setTop (mkF m 216 #[.val (.long q1), .second, .val (.int p2), .val (.int (1 : Int32)), .val (.ref b1), .val (.int (0 : Int32)), .val (.int (1 : Int32)), .val (.int (1 : Int32)), .val (.int (1 : Int32))] [(.ref b1)])) _
              refine XS.iloadN X32.here hx rfl (hb hby at_216) rfl ?_
              show Steps p.tables e below (T32.setTop (mkF m 217 #[.val (.long q1), .second, .val (.int p2), .val (.int (1 : Int32)), .val (.ref b1), .val (.int (0 : Int32)), .val (.int (1 : Int32)), .val (.int (1 : Int32)), .val (.int (1 : Int32))] [(.int (1 : Int32)), (.ref b1)])) _
              refine st98 _ ?_
              show Steps p.tables e below (T98.setTop (mkF m 220 #[.val (.long q1), .second, .val (.int p2), .val (.int (1 : Int32)), .val (.ref b1), .val (.int (0 : Int32)), .val (.int (1 : Int32)), .val (.int (1 : Int32)), .val (.int (1 : Int32))] [(.int (own_v1_f1 (nar .byte (own_b1 q1)) (nar .byte (own_b2 q1)) (nar .byte (own_b3 q1))))])) _
              refine XS.iload X98.here hx rfl (hb hby at_220) rfl ?_
              exact kt
            by_cases hc25 : (own_v1_f1 (nar .byte (own_b1 q1)) (nar .byte (own_b2 q1)) (nar .byte (own_b3 q1))) = (1 : Int32)
            ·
              obtain ⟨fs, hr, hrun, hended, hW, hsame⟩ := X98.leave (v := some (.int (1 : Int32))) (fun h => by rw [Bd.returns] at h; cases h)
              refine ⟨_, _, k100 _ ?_, hrun, hended, _, _, rfl, ?_, ⟨_, rfl⟩, hW, hsame.mono (by decide) (by decide)⟩
              · show Steps p.tables e below (T98.setTop (mkF m 222 #[.val (.long q1), .second, .val (.int p2), .val (.int (1 : Int32)), .val (.ref b1), .val (.int (0 : Int32)), .val (.int (1 : Int32)), .val (.int (1 : Int32)), .val (.int (1 : Int32))] [(.int (1 : Int32)), (.int (own_v1_f1 (nar .byte (own_b1 q1)) (nar .byte (own_b2 q1)) (nar .byte (own_b3 q1))))])) _
                refine XS.icmpNo X98.here hx rfl (hb hby at_222) rfl (teq hc25).2 ?_
                show Steps p.tables e below (T98.setTop (mkF m 225 #[.val (.long q1), .second, .val (.int p2), .val (.int (1 : Int32)), .val (.ref b1), .val (.int (0 : Int32)), .val (.int (1 : Int32)), .val (.int (1 : Int32)), .val (.int (1 : Int32))] [])) _
                refine XS.iconst X98.here hx rfl (hb hby at_225) ?_
                show Steps p.tables e below (T98.setTop (mkF m 226 #[.val (.long q1), .second, .val (.int p2), .val (.int (1 : Int32)), .val (.ref b1), .val (.int (0 : Int32)), .val (.int (1 : Int32)), .val (.int (1 : Int32)), .val (.int (1 : Int32))] [(.int (1 : Int32))])) _
                refine XS.goto X98.here hx rfl (pc0 := 226) (pc' := 230) rfl (hb hby at_226) (by decide) (by decide) ?_
                show Steps p.tables e below (T98.setTop (mkF m 230 #[.val (.long q1), .second, .val (.int p2), .val (.int (1 : Int32)), .val (.ref b1), .val (.int (0 : Int32)), .val (.int (1 : Int32)), .val (.int (1 : Int32)), .val (.int (1 : Int32))] [(.int (1 : Int32))])) _
                exact retN X98 hx (t := .boolean) Bd.returns (by simp) (hb hby at_230) hr
              · show own_Q0 Z q1 p2 h0 n0 _ T98.heap _
                rw [e98]
                exact ⟨(by rw [own_f0, if_neg hc1, if_pos hc17, if_pos hc18, if_neg hc19, if_neg hc23, if_pos hc25]), N99⟩
            ·
              obtain ⟨fs, hr, hrun, hended, hW, hsame⟩ := X98.leave (v := some (.int (0 : Int32))) (fun h => by rw [Bd.returns] at h; cases h)
              refine ⟨_, _, k100 _ ?_, hrun, hended, _, _, rfl, ?_, ⟨_, rfl⟩, hW, hsame.mono (by decide) (by decide)⟩
              · show Steps p.tables e below (T98.setTop (mkF m 222 #[.val (.long q1), .second, .val (.int p2), .val (.int (1 : Int32)), .val (.ref b1), .val (.int (0 : Int32)), .val (.int (1 : Int32)), .val (.int (1 : Int32)), .val (.int (1 : Int32))] [(.int (1 : Int32)), (.int (own_v1_f1 (nar .byte (own_b1 q1)) (nar .byte (own_b2 q1)) (nar .byte (own_b3 q1))))])) _
                refine XS.icmpYes X98.here hx rfl (pc0 := 222) (pc' := 229) rfl (hb hby at_222) rfl (feq hc25).2 (by decide) (by decide) ?_
                show Steps p.tables e below (T98.setTop (mkF m 229 #[.val (.long q1), .second, .val (.int p2), .val (.int (1 : Int32)), .val (.ref b1), .val (.int (0 : Int32)), .val (.int (1 : Int32)), .val (.int (1 : Int32)), .val (.int (1 : Int32))] [])) _
                refine XS.iconst X98.here hx rfl (hb hby at_229) ?_
                show Steps p.tables e below (T98.setTop (mkF m 230 #[.val (.long q1), .second, .val (.int p2), .val (.int (1 : Int32)), .val (.ref b1), .val (.int (0 : Int32)), .val (.int (1 : Int32)), .val (.int (1 : Int32)), .val (.int (1 : Int32))] [(.int (0 : Int32))])) _
                exact retN X98 hx (t := .boolean) Bd.returns (by simp) (hb hby at_230) hr
              · show own_Q0 Z q1 p2 h0 n0 _ T98.heap _
                rw [e98]
                exact ⟨(by rw [own_f0, if_neg hc1, if_pos hc17, if_pos hc18, if_neg hc19, if_neg hc23, if_neg hc25]), N99⟩
      ·
        obtain ⟨cl101, Ar101, qk101, Sz101, Nn101, Hs101, Gf101⟩ := id V_b1_32
        have hin101 : ¬ ((2 : Int32) < 0 ∨ cl101.slots.size ≤ ((2 : Int32)).toNatClampNeg) := inb_of Sz101 ⟨by decide, by decide⟩
        have hat101 : cl101.slots[((2 : Int32)).toNatClampNeg]? = some (.int (nar .byte (own_b2 q1))) := Has.at Hs101 hin101 rfl
        have k102 : ∀ t, Steps p.tables e below (T32.setTop (mkF m 117 #[.val (.long q1), .second, .val (.int p2), .val (.int (1 : Int32)), .val (.ref b1), .val (.int (1 : Int32)), .unset, .unset, .unset] [(.int ((nar .byte (own_b2 q1)) &&& (128 : Int32)))])) t → Steps p.tables e below (s₁.setTop (entryFrame m #[(.long q1), (.int p2)] maxLocals)) t := by
          intro t kt
          refine k82 t ?_
          show Steps p.tables e below (T32.setTop (mkF m 97 #[.val (.long q1), .second, .val (.int p2), .val (.int (1 : Int32)), .val (.ref b1), .unset, .unset, .unset, .unset] [(.int ((nar .byte (own_b1 q1)) &&& (128 : Int32)))])) _
          refine XS.ifNo X32.here hx rfl (hb hby at_97) rfl ((if0 _ _).trans (feq hc18).1) ?_
          show Steps p.tables e below (T32.setTop (mkF m 100 #[.val (.long q1), .second, .val (.int p2), .val (.int (1 : Int32)), .val (.ref b1), .unset, .unset, .unset, .unset] [])) _
          refine XS.iconst X32.here hx rfl (hb hby at_100) ?_
          show Steps p.tables e below (T32.setTop (mkF m 101 #[.val (.long q1), .second, .val (.int p2), .val (.int (1 : Int32)), .val (.ref b1), .unset, .unset, .unset, .unset] [(.int (1 : Int32))])) _
          refine XS.goto X32.here hx rfl (pc0 := 101) (pc' := 105) rfl (hb hby at_101) (by decide) (by decide) ?_
          show Steps p.tables e below (T32.setTop (mkF m 105 #[.val (.long q1), .second, .val (.int p2), .val (.int (1 : Int32)), .val (.ref b1), .unset, .unset, .unset, .unset] [(.int (1 : Int32))])) _
          refine XS.istore X32.here hx rfl (hb hby at_105) rfl (l' := #[.val (.long q1), .second, .val (.int p2), .val (.int (1 : Int32)), .val (.ref b1), .val (.int (1 : Int32)), .unset, .unset, .unset]) rfl ?_
          show Steps p.tables e below (T32.setTop (mkF m 107 #[.val (.long q1), .second, .val (.int p2), .val (.int (1 : Int32)), .val (.ref b1), .val (.int (1 : Int32)), .unset, .unset, .unset] [])) _
          refine XS.aload X32.here hx rfl (hb hby at_107) rfl rfl ?_
          show Steps p.tables e below (T32.setTop (mkF m 109 #[.val (.long q1), .second, .val (.int p2), .val (.int (1 : Int32)), .val (.ref b1), .val (.int (1 : Int32)), .unset, .unset, .unset] [(.ref b1)])) _
          refine XS.iloadN X32.here hx rfl (hb hby at_109) rfl ?_
          show Steps p.tables e below (T32.setTop (mkF m 110 #[.val (.long q1), .second, .val (.int p2), .val (.int (1 : Int32)), .val (.ref b1), .val (.int (1 : Int32)), .unset, .unset, .unset] [(.int (1 : Int32)), (.ref b1)])) _
          refine XS.iconst X32.here hx rfl (hb hby at_110) ?_
          show Steps p.tables e below (T32.setTop (mkF m 111 #[.val (.long q1), .second, .val (.int p2), .val (.int (1 : Int32)), .val (.ref b1), .val (.int (1 : Int32)), .unset, .unset, .unset] [(.int (1 : Int32)), (.int (1 : Int32)), (.ref b1)])) _
          refine XS.iadd X32.here hx rfl (hb hby at_111) rfl ?_
          show Steps p.tables e below (T32.setTop (mkF m 112 #[.val (.long q1), .second, .val (.int p2), .val (.int (1 : Int32)), .val (.ref b1), .val (.int (1 : Int32)), .unset, .unset, .unset] [(.int (2 : Int32)), (.ref b1)])) _
          refine X32.baloadBytes hx (j := (2 : Int32)) (v := (.int (nar .byte (own_b2 q1)))) (by rw [e32]; exact Ar101.1) (State.isArrayOf_alike hZ.alike Ar101.2.1) Ar101.2.2 hin101 hat101 (g := (mkF m 112 #[.val (.long q1), .second, .val (.int p2), .val (.int (1 : Int32)), .val (.ref b1), .val (.int (1 : Int32)), .unset, .unset, .unset] [(.int (2 : Int32)), (.ref b1)])) rfl rfl (hb hby at_112) _ ?_
          show Steps p.tables e below (T32.setTop (mkF m 113 #[.val (.long q1), .second, .val (.int p2), .val (.int (1 : Int32)), .val (.ref b1), .val (.int (1 : Int32)), .unset, .unset, .unset] [(.int (nar .byte (own_b2 q1)))])) _
          refine XS.sipush X32.here hx rfl (hb hby at_113) ?_
          show Steps p.tables e below (T32.setTop (mkF m 116 #[.val (.long q1), .second, .val (.int p2), .val (.int (1 : Int32)), .val (.ref b1), .val (.int (1 : Int32)), .unset, .unset, .unset] [(.int (128 : Int32)), (.int (nar .byte (own_b2 q1)))])) _
          refine XS.iand X32.here hx rfl (hb hby at_116) rfl ?_
          exact kt
        by_cases hc26 : ((nar .byte (own_b2 q1)) &&& (128 : Int32)) = (0 : Int32)
        ·
          obtain ⟨cl103, Ar103, qk103, Sz103, Nn103, Hs103, Gf103⟩ := id V_b1_32
          have hin103 : ¬ ((3 : Int32) < 0 ∨ cl103.slots.size ≤ ((3 : Int32)).toNatClampNeg) := inb_of Sz103 ⟨by decide, by decide⟩
          have hat103 : cl103.slots[((3 : Int32)).toNatClampNeg]? = some (.int (nar .byte (own_b3 q1))) := Has.at Hs103 hin103 rfl
          have k104 : ∀ t, Steps p.tables e below (T32.setTop (mkF m 137 #[.val (.long q1), .second, .val (.int p2), .val (.int (1 : Int32)), .val (.ref b1), .val (.int (1 : Int32)), .val (.int (0 : Int32)), .unset, .unset] [(.int ((nar .byte (own_b3 q1)) &&& (128 : Int32)))])) t → Steps p.tables e below (s₁.setTop (entryFrame m #[(.long q1), (.int p2)] maxLocals)) t := by
            intro t kt
            refine k102 t ?_
            show Steps p.tables e below (T32.setTop (mkF m 117 #[.val (.long q1), .second, .val (.int p2), .val (.int (1 : Int32)), .val (.ref b1), .val (.int (1 : Int32)), .unset, .unset, .unset] [(.int ((nar .byte (own_b2 q1)) &&& (128 : Int32)))])) _
            refine XS.ifYes X32.here hx rfl (pc0 := 117) (pc' := 124) rfl (hb hby at_117) rfl ((if0 _ _).trans (teq hc26).1) (by decide) (by decide) ?_
            show Steps p.tables e below (T32.setTop (mkF m 124 #[.val (.long q1), .second, .val (.int p2), .val (.int (1 : Int32)), .val (.ref b1), .val (.int (1 : Int32)), .unset, .unset, .unset] [])) _
            refine XS.iconst X32.here hx rfl (hb hby at_124) ?_
            show Steps p.tables e below (T32.setTop (mkF m 125 #[.val (.long q1), .second, .val (.int p2), .val (.int (1 : Int32)), .val (.ref b1), .val (.int (1 : Int32)), .unset, .unset, .unset] [(.int (0 : Int32))])) _
            refine XS.istore X32.here hx rfl (hb hby at_125) rfl (l' := #[.val (.long q1), .second, .val (.int p2), .val (.int (1 : Int32)), .val (.ref b1), .val (.int (1 : Int32)), .val (.int (0 : Int32)), .unset, .unset]) rfl ?_
            show Steps p.tables e below (T32.setTop (mkF m 127 #[.val (.long q1), .second, .val (.int p2), .val (.int (1 : Int32)), .val (.ref b1), .val (.int (1 : Int32)), .val (.int (0 : Int32)), .unset, .unset] [])) _
            refine XS.aload X32.here hx rfl (hb hby at_127) rfl rfl ?_
            show Steps p.tables e below (T32.setTop (mkF m 129 #[.val (.long q1), .second, .val (.int p2), .val (.int (1 : Int32)), .val (.ref b1), .val (.int (1 : Int32)), .val (.int (0 : Int32)), .unset, .unset] [(.ref b1)])) _
            refine XS.iloadN X32.here hx rfl (hb hby at_129) rfl ?_
            show Steps p.tables e below (T32.setTop (mkF m 130 #[.val (.long q1), .second, .val (.int p2), .val (.int (1 : Int32)), .val (.ref b1), .val (.int (1 : Int32)), .val (.int (0 : Int32)), .unset, .unset] [(.int (1 : Int32)), (.ref b1)])) _
            refine XS.iconst X32.here hx rfl (hb hby at_130) ?_
            show Steps p.tables e below (T32.setTop (mkF m 131 #[.val (.long q1), .second, .val (.int p2), .val (.int (1 : Int32)), .val (.ref b1), .val (.int (1 : Int32)), .val (.int (0 : Int32)), .unset, .unset] [(.int (2 : Int32)), (.int (1 : Int32)), (.ref b1)])) _
            refine XS.iadd X32.here hx rfl (hb hby at_131) rfl ?_
            show Steps p.tables e below (T32.setTop (mkF m 132 #[.val (.long q1), .second, .val (.int p2), .val (.int (1 : Int32)), .val (.ref b1), .val (.int (1 : Int32)), .val (.int (0 : Int32)), .unset, .unset] [(.int (3 : Int32)), (.ref b1)])) _
            refine X32.baloadBytes hx (j := (3 : Int32)) (v := (.int (nar .byte (own_b3 q1)))) (by rw [e32]; exact Ar103.1) (State.isArrayOf_alike hZ.alike Ar103.2.1) Ar103.2.2 hin103 hat103 (g := (mkF m 132 #[.val (.long q1), .second, .val (.int p2), .val (.int (1 : Int32)), .val (.ref b1), .val (.int (1 : Int32)), .val (.int (0 : Int32)), .unset, .unset] [(.int (3 : Int32)), (.ref b1)])) rfl rfl (hb hby at_132) _ ?_
            show Steps p.tables e below (T32.setTop (mkF m 133 #[.val (.long q1), .second, .val (.int p2), .val (.int (1 : Int32)), .val (.ref b1), .val (.int (1 : Int32)), .val (.int (0 : Int32)), .unset, .unset] [(.int (nar .byte (own_b3 q1)))])) _
            refine XS.sipush X32.here hx rfl (hb hby at_133) ?_
            show Steps p.tables e below (T32.setTop (mkF m 136 #[.val (.long q1), .second, .val (.int p2), .val (.int (1 : Int32)), .val (.ref b1), .val (.int (1 : Int32)), .val (.int (0 : Int32)), .unset, .unset] [(.int (128 : Int32)), (.int (nar .byte (own_b3 q1)))])) _
            refine XS.iand X32.here hx rfl (hb hby at_136) rfl ?_
            exact kt
          by_cases hc27 : ((nar .byte (own_b3 q1)) &&& (128 : Int32)) = (0 : Int32)
          ·
            obtain ⟨v105, _, ⟨T105, L105, k105, n105⟩, -, X105, ⟨Lc105, hQ105, l105, y105, z105⟩, st105⟩ := Jvm.LawKit.callS X32 hx (y := (⟨"com/example/castd/castd/mqtt/VariableByteInteger", "length", "([BI)I"⟩ : MethodName)) hown (mvT hZ (hw _ (List.mem_of_getElem? (i := 1) rfl))) (mvT hZ (hw _ (List.mem_of_getElem? (i := 2) rfl))) (mvT hZ (hw _ (List.mem_of_getElem? (i := 3) rfl))) (mvT hZ (hw _ (List.mem_of_getElem? (i := 4) rfl))) (by decide) (backOf (W := 0) (own_v1_rm1 l Z a0 hw [] b1 k1 (nar .byte (own_b0 q1)) (nar .byte (own_b1 q1)) (nar .byte (own_b2 q1)) (nar .byte (own_b3 q1)) (nar .byte (own_b4 q1)) (nar .byte (own_b5 q1)) (nar .byte (own_b6 q1)) (nar .byte (own_b7 q1)) h32 n0 Z34 V_b1_32 (by intro h1 h2 h3; first | contradiction | exact own_clr _)) hZ (hw _ (List.mem_of_getElem? (i := 4) rfl)) (hw _ (List.mem_of_getElem? (i := 3) rfl)) (by decide) (by decide)) (g := (mkF m 217 #[.val (.long q1), .second, .val (.int p2), .val (.int (1 : Int32)), .val (.ref b1), .val (.int (1 : Int32)), .val (.int (0 : Int32)), .val (.int (0 : Int32)), .val (.int (2 : Int32))] [(.int (1 : Int32)), (.ref b1)])) rfl (by rw [hml]; rfl) (argsL := [(.ref b1), (.int (1 : Int32))]) (rest := []) (lenOf own_pd25 rfl) rfl (by show 2 * 0 + _ ≤ _; exact Nat.le_of_eq rfl) (hb hby at_217) (fun _ _ => ⟨rfl, e32, (by decide : 1 + 0 ≤ _), (by decide : 8 + 0 ≤ _)⟩)
            dsimp only [Pt.U, Pt.locs, Pt.cells, Pt.slots] at X105 l105 y105 z105 st105 hQ105
            subst l105 y105 z105
            obtain ⟨rfl, N105q, e105⟩ := hQ105
            have N106 := Fr.app N33 N105q
            have k107 : ∀ t, Steps p.tables e below (T105.setTop (mkF m 222 #[.val (.long q1), .second, .val (.int p2), .val (.int (1 : Int32)), .val (.ref b1), .val (.int (1 : Int32)), .val (.int (0 : Int32)), .val (.int (0 : Int32)), .val (.int (2 : Int32))] [(.int (2 : Int32)), (.int (own_v1_f1 (nar .byte (own_b1 q1)) (nar .byte (own_b2 q1)) (nar .byte (own_b3 q1))))])) t → Steps p.tables e below (s₁.setTop (entryFrame m #[(.long q1), (.int p2)] maxLocals)) t := by
              intro t kt
              refine k104 t ?_
              show Steps p.tables e below (T32.setTop (mkF m 137 #[.val (.long q1), .second, .val (.int p2), .val (.int (1 : Int32)), .val (.ref b1), .val (.int (1 : Int32)), .val (.int (0 : Int32)), .unset, .unset] [(.int ((nar .byte (own_b3 q1)) &&& (128 : Int32)))])) _
              refine XS.ifYes X32.here hx rfl (pc0 := 137) (pc' := 144) rfl (hb hby at_137) rfl ((if0 _ _).trans (teq hc27).1) (by decide) (by decide) ?_
              show Steps p.tables e below (T32.setTop (mkF m 144 #[.val (.long q1), .second, .val (.int p2), .val (.int (1 : Int32)), .val (.ref b1), .val (.int (1 : Int32)), .val (.int (0 : Int32)), .unset, .unset] [])) _
              refine XS.iconst X32.here hx rfl (hb hby at_144) ?_
              show Steps p.tables e below (T32.setTop (mkF m 145 #[.val (.long q1), .second, .val (.int p2), .val (.int (1 : Int32)), .val (.ref b1), .val (.int (1 : Int32)), .val (.int (0 : Int32)), .unset, .unset] [(.int (0 : Int32))])) _
              refine XS.istore X32.here hx rfl (hb hby at_145) rfl (l' := #[.val (.long q1), .second, .val (.int p2), .val (.int (1 : Int32)), .val (.ref b1), .val (.int (1 : Int32)), .val (.int (0 : Int32)), .val (.int (0 : Int32)), .unset]) rfl ?_
              show Steps p.tables e below (T32.setTop (mkF m 147 #[.val (.long q1), .second, .val (.int p2), .val (.int (1 : Int32)), .val (.ref b1), .val (.int (1 : Int32)), .val (.int (0 : Int32)), .val (.int (0 : Int32)), .unset] [])) _
              refine XS.iload X32.here hx rfl (hb hby at_147) rfl ?_
              show Steps p.tables e below (T32.setTop (mkF m 149 #[.val (.long q1), .second, .val (.int p2), .val (.int (1 : Int32)), .val (.ref b1), .val (.int (1 : Int32)), .val (.int (0 : Int32)), .val (.int (0 : Int32)), .unset] [(.int (1 : Int32))])) _
              refine XS.ifNo X32.here hx rfl (hb hby at_149) rfl ((if0 _ _).trans (feq (by decide : ¬ ((1 : Int32) = (0 : Int32)))).1) ?_
              show Steps p.tables e below (T32.setTop (mkF m 152 #[.val (.long q1), .second, .val (.int p2), .val (.int (1 : Int32)), .val (.ref b1), .val (.int (1 : Int32)), .val (.int (0 : Int32)), .val (.int (0 : Int32)), .unset] [])) _
              refine XS.iload X32.here hx rfl (hb hby at_152) rfl ?_
              show Steps p.tables e below (T32.setTop (mkF m 154 #[.val (.long q1), .second, .val (.int p2), .val (.int (1 : Int32)), .val (.ref b1), .val (.int (1 : Int32)), .val (.int (0 : Int32)), .val (.int (0 : Int32)), .unset] [(.int (0 : Int32))])) _
              refine XS.ifYes X32.here hx rfl (pc0 := 154) (pc' := 178) rfl (hb hby at_154) rfl ((if0 _ _).trans (teq (by decide : (0 : Int32) = (0 : Int32))).1) (by decide) (by decide) ?_
              show Steps p.tables e below (T32.setTop (mkF m 178 #[.val (.long q1), .second, .val (.int p2), .val (.int (1 : Int32)), .val (.ref b1), .val (.int (1 : Int32)), .val (.int (0 : Int32)), .val (.int (0 : Int32)), .unset] [])) _
              refine XS.iload X32.here hx rfl (hb hby at_178) rfl ?_
              show Steps p.tables e below (T32.setTop (mkF m 180 #[.val (.long q1), .second, .val (.int p2), .val (.int (1 : Int32)), .val (.ref b1), .val (.int (1 : Int32)), .val (.int (0 : Int32)), .val (.int (0 : Int32)), .unset] [(.int (1 : Int32))])) _
              refine XS.ifYes X32.here hx rfl (pc0 := 180) (pc' := 189) rfl (hb hby at_180) rfl ((if0 _ _).trans (feq (by decide : ¬ ((1 : Int32) = (0 : Int32)))).2) (by decide) (by decide) ?_
              show Steps p.tables e below (T32.setTop (mkF m 189 #[.val (.long q1), .second, .val (.int p2), .val (.int (1 : Int32)), .val (.ref b1), .val (.int (1 : Int32)), .val (.int (0 : Int32)), .val (.int (0 : Int32)), .unset] [])) _
              refine XS.iload X32.here hx rfl (hb hby at_189) rfl ?_
              show Steps p.tables e below (T32.setTop (mkF m 191 #[.val (.long q1), .second, .val (.int p2), .val (.int (1 : Int32)), .val (.ref b1), .val (.int (1 : Int32)), .val (.int (0 : Int32)), .val (.int (0 : Int32)), .unset] [(.int (0 : Int32))])) _
              refine XS.ifNo X32.here hx rfl (hb hby at_191) rfl ((if0 _ _).trans (teq (by decide : (0 : Int32) = (0 : Int32))).2) ?_
              show Steps p.tables e below (T32.setTop (mkF m 194 #[.val (.long q1), .second, .val (.int p2), .val (.int (1 : Int32)), .val (.ref b1), .val (.int (1 : Int32)), .val (.int (0 : Int32)), .val (.int (0 : Int32)), .unset] [])) _
              refine XS.iconst X32.here hx rfl (hb hby at_194) ?_
              show Steps p.tables e below (T32.setTop (mkF m 195 #[.val (.long q1), .second, .val (.int p2), .val (.int (1 : Int32)), .val (.ref b1), .val (.int (1 : Int32)), .val (.int (0 : Int32)), .val (.int (0 : Int32)), .unset] [(.int (2 : Int32))])) _
              refine XS.istore X32.here hx rfl (hb hby at_195) rfl (l' := #[.val (.long q1), .second, .val (.int p2), .val (.int (1 : Int32)), .val (.ref b1), .val (.int (1 : Int32)), .val (.int (0 : Int32)), .val (.int (0 : Int32)), .val (.int (2 : Int32))]) rfl ?_
              show Steps p.tables e below (T32.setTop (mkF m 197 #[.val (.long q1), .second, .val (.int p2), .val (.int (1 : Int32)), .val (.ref b1), .val (.int (1 : Int32)), .val (.int (0 : Int32)), .val (.int (0 : Int32)), .val (.int (2 : Int32))] [])) _
              refine XS.goto X32.here hx rfl (pc0 := 197) (pc' := 214) rfl (hb hby at_197) (by decide) (by decide) ?_
              show Steps p.tables e below (T32.setTop (mkF m 214 #[.val (.long q1), .second, .val (.int p2), .val (.int (1 : Int32)), .val (.ref b1), .val (.int (1 : Int32)), .val (.int (0 : Int32)), .val (.int (0 : Int32)), .val (.int (2 : Int32))] [])) _
              refine XS.aload X32.here hx rfl (hb hby at_214) rfl rfl ?_
              show Steps p.tables e below (T32.setTop (mkF m 216 #[.val (.long q1), .second, .val (.int p2), .val (.int (1 : Int32)), .val (.ref b1), .val (.int (1 : Int32)), .val (.int (0 : Int32)), .val (.int (0 : Int32)), .val (.int (2 : Int32))] [(.ref b1)])) _
              refine XS.iloadN X32.here hx rfl (hb hby at_216) rfl ?_
              show Steps p.tables e below (T32.setTop (mkF m 217 #[.val (.long q1), .second, .val (.int p2), .val (.int (1 : Int32)), .val (.ref b1), .val (.int (1 : Int32)), .val (.int (0 : Int32)), .val (.int (0 : Int32)), .val (.int (2 : Int32))] [(.int (1 : Int32)), (.ref b1)])) _
              refine st105 _ ?_
              show Steps p.tables e below (T105.setTop (mkF m 220 #[.val (.long q1), .second, .val (.int p2), .val (.int (1 : Int32)), .val (.ref b1), .val (.int (1 : Int32)), .val (.int (0 : Int32)), .val (.int (0 : Int32)), .val (.int (2 : Int32))] [(.int (own_v1_f1 (nar .byte (own_b1 q1)) (nar .byte (own_b2 q1)) (nar .byte (own_b3 q1))))])) _
              refine XS.iload X105.here hx rfl (hb hby at_220) rfl ?_
              exact kt
            by_cases hc28 : (own_v1_f1 (nar .byte (own_b1 q1)) (nar .byte (own_b2 q1)) (nar .byte (own_b3 q1))) = (2 : Int32)
            ·
              obtain ⟨fs, hr, hrun, hended, hW, hsame⟩ := X105.leave (v := some (.int (1 : Int32))) (fun h => by rw [Bd.returns] at h; cases h)
              refine ⟨_, _, k107 _ ?_, hrun, hended, _, _, rfl, ?_, ⟨_, rfl⟩, hW, hsame.mono (by decide) (by decide)⟩
              · show Steps p.tables e below (T105.setTop (mkF m 222 #[.val (.long q1), .second, .val (.int p2), .val (.int (1 : Int32)), .val (.ref b1), .val (.int (1 : Int32)), .val (.int (0 : Int32)), .val (.int (0 : Int32)), .val (.int (2 : Int32))] [(.int (2 : Int32)), (.int (own_v1_f1 (nar .byte (own_b1 q1)) (nar .byte (own_b2 q1)) (nar .byte (own_b3 q1))))])) _
                refine XS.icmpNo X105.here hx rfl (hb hby at_222) rfl (teq hc28).2 ?_
                show Steps p.tables e below (T105.setTop (mkF m 225 #[.val (.long q1), .second, .val (.int p2), .val (.int (1 : Int32)), .val (.ref b1), .val (.int (1 : Int32)), .val (.int (0 : Int32)), .val (.int (0 : Int32)), .val (.int (2 : Int32))] [])) _
                refine XS.iconst X105.here hx rfl (hb hby at_225) ?_
                show Steps p.tables e below (T105.setTop (mkF m 226 #[.val (.long q1), .second, .val (.int p2), .val (.int (1 : Int32)), .val (.ref b1), .val (.int (1 : Int32)), .val (.int (0 : Int32)), .val (.int (0 : Int32)), .val (.int (2 : Int32))] [(.int (1 : Int32))])) _
                refine XS.goto X105.here hx rfl (pc0 := 226) (pc' := 230) rfl (hb hby at_226) (by decide) (by decide) ?_
                show Steps p.tables e below (T105.setTop (mkF m 230 #[.val (.long q1), .second, .val (.int p2), .val (.int (1 : Int32)), .val (.ref b1), .val (.int (1 : Int32)), .val (.int (0 : Int32)), .val (.int (0 : Int32)), .val (.int (2 : Int32))] [(.int (1 : Int32))])) _
                exact retN X105 hx (t := .boolean) Bd.returns (by simp) (hb hby at_230) hr
              · show own_Q0 Z q1 p2 h0 n0 _ T105.heap _
                rw [e105]
                exact ⟨(by rw [own_f0, if_neg hc1, if_pos hc17, if_neg hc18, if_pos hc26, if_pos hc27, if_pos hc28]), N106⟩
            ·
              obtain ⟨fs, hr, hrun, hended, hW, hsame⟩ := X105.leave (v := some (.int (0 : Int32))) (fun h => by rw [Bd.returns] at h; cases h)
              refine ⟨_, _, k107 _ ?_, hrun, hended, _, _, rfl, ?_, ⟨_, rfl⟩, hW, hsame.mono (by decide) (by decide)⟩
              · show Steps p.tables e below (T105.setTop (mkF m 222 #[.val (.long q1), .second, .val (.int p2), .val (.int (1 : Int32)), .val (.ref b1), .val (.int (1 : Int32)), .val (.int (0 : Int32)), .val (.int (0 : Int32)), .val (.int (2 : Int32))] [(.int (2 : Int32)), (.int (own_v1_f1 (nar .byte (own_b1 q1)) (nar .byte (own_b2 q1)) (nar .byte (own_b3 q1))))])) _
                refine XS.icmpYes X105.here hx rfl (pc0 := 222) (pc' := 229) rfl (hb hby at_222) rfl (feq hc28).2 (by decide) (by decide) ?_
                show Steps p.tables e below (T105.setTop (mkF m 229 #[.val (.long q1), .second, .val (.int p2), .val (.int (1 : Int32)), .val (.ref b1), .val (.int (1 : Int32)), .val (.int (0 : Int32)), .val (.int (0 : Int32)), .val (.int (2 : Int32))] [])) _
                refine XS.iconst X105.here hx rfl (hb hby at_229) ?_
                show Steps p.tables e below (T105.setTop (mkF m 230 #[.val (.long q1), .second, .val (.int p2), .val (.int (1 : Int32)), .val (.ref b1), .val (.int (1 : Int32)), .val (.int (0 : Int32)), .val (.int (0 : Int32)), .val (.int (2 : Int32))] [(.int (0 : Int32))])) _
                exact retN X105 hx (t := .boolean) Bd.returns (by simp) (hb hby at_230) hr
              · show own_Q0 Z q1 p2 h0 n0 _ T105.heap _
                rw [e105]
                exact ⟨(by rw [own_f0, if_neg hc1, if_pos hc17, if_neg hc18, if_pos hc26, if_pos hc27, if_neg hc28]), N106⟩
          ·
            obtain ⟨v108, _, ⟨T108, L108, k108, n108⟩, -, X108, ⟨Lc108, hQ108, l108, y108, z108⟩, st108⟩ := Jvm.LawKit.callS X32 hx (y := (⟨"com/example/castd/castd/mqtt/VariableByteInteger", "length", "([BI)I"⟩ : MethodName)) hown (mvT hZ (hw _ (List.mem_of_getElem? (i := 1) rfl))) (mvT hZ (hw _ (List.mem_of_getElem? (i := 2) rfl))) (mvT hZ (hw _ (List.mem_of_getElem? (i := 3) rfl))) (mvT hZ (hw _ (List.mem_of_getElem? (i := 4) rfl))) (by decide) (backOf (W := 0) (own_v1_rm1 l Z a0 hw [] b1 k1 (nar .byte (own_b0 q1)) (nar .byte (own_b1 q1)) (nar .byte (own_b2 q1)) (nar .byte (own_b3 q1)) (nar .byte (own_b4 q1)) (nar .byte (own_b5 q1)) (nar .byte (own_b6 q1)) (nar .byte (own_b7 q1)) h32 n0 Z34 V_b1_32 (by intro h1 h2 h3; first | contradiction | exact own_clr _)) hZ (hw _ (List.mem_of_getElem? (i := 4) rfl)) (hw _ (List.mem_of_getElem? (i := 3) rfl)) (by decide) (by decide)) (g := (mkF m 217 #[.val (.long q1), .second, .val (.int p2), .val (.int (1 : Int32)), .val (.ref b1), .val (.int (1 : Int32)), .val (.int (0 : Int32)), .val (.int (1 : Int32)), .val (.int (2 : Int32))] [(.int (1 : Int32)), (.ref b1)])) rfl (by rw [hml]; rfl) (argsL := [(.ref b1), (.int (1 : Int32))]) (rest := []) (lenOf own_pd25 rfl) rfl (by show 2 * 0 + _ ≤ _; exact Nat.le_of_eq rfl) (hb hby at_217) (fun _ _ => ⟨rfl, e32, (by decide : 1 + 0 ≤ _), (by decide : 8 + 0 ≤ _)⟩)
            dsimp only [Pt.U, Pt.locs, Pt.cells, Pt.slots] at X108 l108 y108 z108 st108 hQ108
            subst l108 y108 z108
            obtain ⟨rfl, N108q, e108⟩ := hQ108
            have N109 := Fr.app N33 N108q
            have k110 : ∀ t, Steps p.tables e below (T108.setTop (mkF m 222 #[.val (.long q1), .second, .val (.int p2), .val (.int (1 : Int32)), .val (.ref b1), .val (.int (1 : Int32)), .val (.int (0 : Int32)), .val (.int (1 : Int32)), .val (.int (2 : Int32))] [(.int (2 : Int32)), (.int (own_v1_f1 (nar .byte (own_b1 q1)) (nar .byte (own_b2 q1)) (nar .byte (own_b3 q1))))])) t → Steps p.tables e below (s₁.setTop (entryFrame m #[(.long q1), (.int p2)] maxLocals)) t := by
              intro t kt
              refine k104 t ?_
              show Steps p.tables e below (T32.setTop (mkF m 137 #[.val (.long q1), .second, .val (.int p2), .val (.int (1 : Int32)), .val (.ref b1), .val (.int (1 : Int32)), .val (.int (0 : Int32)), .unset, .unset] [(.int ((nar .byte (own_b3 q1)) &&& (128 : Int32)))])) _
              refine XS.ifNo X32.here hx rfl (hb hby at_137) rfl ((if0 _ _).trans (feq hc27).1) ?_
              show Steps p.tables e below (T32.setTop (mkF m 140 #[.val (.long q1), .second, .val (.int p2), .val (.int (1 : Int32)), .val (.ref b1), .val (.int (1 : Int32)), .val (.int (0 : Int32)), .unset, .unset] [])) _
              refine XS.iconst X32.here hx rfl (hb hby at_140) ?_
              show Steps p.tables e below (T32.setTop (mkF m 141 #[.val (.long q1), .second, .val (.int p2), .val (.int (1 : Int32)), .val (.ref b1), .val (.int (1 : Int32)), .val (.int (0 : Int32)), .unset, .unset] [(.int (1 : Int32))])) _
              refine XS.goto X32.here hx rfl (pc0 := 141) (pc' := 145) rfl (hb hby at_141) (by decide) (by decide) ?_
              show Steps p.tables e below (T32.setTop (mkF m 145 #[.val (.long q1), .second, .val (.int p2), .val (.int (1 : Int32)), .val (.ref b1), .val (.int (1 : Int32)), .val (.int (0 : Int32)), .unset, .unset] [(.int (1 : Int32))])) _
              refine XS.istore X32.here hx rfl (hb hby at_145) rfl (l' := #[.val (.long q1), .second, .val (.int p2), .val (.int (1 : Int32)), .val (.ref b1), .val (.int (1 : Int32)), .val (.int (0 : Int32)), .val (.int (1 : Int32)), .unset]) rfl ?_
              show Steps p.tables e below (T32.setTop (mkF m 147 #[.val (.long q1), .second, .val (.int p2), .val (.int (1 : Int32)), .val (.ref b1), .val (.int (1 : Int32)), .val (.int (0 : Int32)), .val (.int (1 : Int32)), .unset] [])) _
              refine XS.iload X32.here hx rfl (hb hby at_147) rfl ?_
              show Steps p.tables e below (T32.setTop (mkF m 149 #[.val (.long q1), .second, .val (.int p2), .val (.int (1 : Int32)), .val (.ref b1), .val (.int (1 : Int32)), .val (.int (0 : Int32)), .val (.int (1 : Int32)), .unset] [(.int (1 : Int32))])) _
              refine XS.ifNo X32.here hx rfl (hb hby at_149) rfl ((if0 _ _).trans (feq (by decide : ¬ ((1 : Int32) = (0 : Int32)))).1) ?_
              show Steps p.tables e below (T32.setTop (mkF m 152 #[.val (.long q1), .second, .val (.int p2), .val (.int (1 : Int32)), .val (.ref b1), .val (.int (1 : Int32)), .val (.int (0 : Int32)), .val (.int (1 : Int32)), .unset] [])) _
              refine XS.iload X32.here hx rfl (hb hby at_152) rfl ?_
              show Steps p.tables e below (T32.setTop (mkF m 154 #[.val (.long q1), .second, .val (.int p2), .val (.int (1 : Int32)), .val (.ref b1), .val (.int (1 : Int32)), .val (.int (0 : Int32)), .val (.int (1 : Int32)), .unset] [(.int (0 : Int32))])) _
              refine XS.ifYes X32.here hx rfl (pc0 := 154) (pc' := 178) rfl (hb hby at_154) rfl ((if0 _ _).trans (teq (by decide : (0 : Int32) = (0 : Int32))).1) (by decide) (by decide) ?_
              show Steps p.tables e below (T32.setTop (mkF m 178 #[.val (.long q1), .second, .val (.int p2), .val (.int (1 : Int32)), .val (.ref b1), .val (.int (1 : Int32)), .val (.int (0 : Int32)), .val (.int (1 : Int32)), .unset] [])) _
              refine XS.iload X32.here hx rfl (hb hby at_178) rfl ?_
              show Steps p.tables e below (T32.setTop (mkF m 180 #[.val (.long q1), .second, .val (.int p2), .val (.int (1 : Int32)), .val (.ref b1), .val (.int (1 : Int32)), .val (.int (0 : Int32)), .val (.int (1 : Int32)), .unset] [(.int (1 : Int32))])) _
              refine XS.ifYes X32.here hx rfl (pc0 := 180) (pc' := 189) rfl (hb hby at_180) rfl ((if0 _ _).trans (feq (by decide : ¬ ((1 : Int32) = (0 : Int32)))).2) (by decide) (by decide) ?_
              show Steps p.tables e below (T32.setTop (mkF m 189 #[.val (.long q1), .second, .val (.int p2), .val (.int (1 : Int32)), .val (.ref b1), .val (.int (1 : Int32)), .val (.int (0 : Int32)), .val (.int (1 : Int32)), .unset] [])) _
              refine XS.iload X32.here hx rfl (hb hby at_189) rfl ?_
              show Steps p.tables e below (T32.setTop (mkF m 191 #[.val (.long q1), .second, .val (.int p2), .val (.int (1 : Int32)), .val (.ref b1), .val (.int (1 : Int32)), .val (.int (0 : Int32)), .val (.int (1 : Int32)), .unset] [(.int (0 : Int32))])) _
              refine XS.ifNo X32.here hx rfl (hb hby at_191) rfl ((if0 _ _).trans (teq (by decide : (0 : Int32) = (0 : Int32))).2) ?_
              show Steps p.tables e below (T32.setTop (mkF m 194 #[.val (.long q1), .second, .val (.int p2), .val (.int (1 : Int32)), .val (.ref b1), .val (.int (1 : Int32)), .val (.int (0 : Int32)), .val (.int (1 : Int32)), .unset] [])) _
              refine XS.iconst X32.here hx rfl (hb hby at_194) ?_
              show Steps p.tables e below (T32.setTop (mkF m 195 #[.val (.long q1), .second, .val (.int p2), .val (.int (1 : Int32)), .val (.ref b1), .val (.int (1 : Int32)), .val (.int (0 : Int32)), .val (.int (1 : Int32)), .unset] [(.int (2 : Int32))])) _
              refine XS.istore X32.here hx rfl (hb hby at_195) rfl (l' := #[.val (.long q1), .second, .val (.int p2), .val (.int (1 : Int32)), .val (.ref b1), .val (.int (1 : Int32)), .val (.int (0 : Int32)), .val (.int (1 : Int32)), .val (.int (2 : Int32))]) rfl ?_
              show Steps p.tables e below (T32.setTop (mkF m 197 #[.val (.long q1), .second, .val (.int p2), .val (.int (1 : Int32)), .val (.ref b1), .val (.int (1 : Int32)), .val (.int (0 : Int32)), .val (.int (1 : Int32)), .val (.int (2 : Int32))] [])) _
              refine XS.goto X32.here hx rfl (pc0 := 197) (pc' := 214) rfl (hb hby at_197) (by decide) (by decide) ?_
              show Steps p.tables e below (T32.setTop (mkF m 214 #[.val (.long q1), .second, .val (.int p2), .val (.int (1 : Int32)), .val (.ref b1), .val (.int (1 : Int32)), .val (.int (0 : Int32)), .val (.int (1 : Int32)), .val (.int (2 : Int32))] [])) _
              refine XS.aload X32.here hx rfl (hb hby at_214) rfl rfl ?_
              show Steps p.tables e below (T32.setTop (mkF m 216 #[.val (.long q1), .second, .val (.int p2), .val (.int (1 : Int32)), .val (.ref b1), .val (.int (1 : Int32)), .val (.int (0 : Int32)), .val (.int (1 : Int32)), .val (.int (2 : Int32))] [(.ref b1)])) _
              refine XS.iloadN X32.here hx rfl (hb hby at_216) rfl ?_
              show Steps p.tables e below (T32.setTop (mkF m 217 #[.val (.long q1), .second, .val (.int p2), .val (.int (1 : Int32)), .val (.ref b1), .val (.int (1 : Int32)), .val (.int (0 : Int32)), .val (.int (1 : Int32)), .val (.int (2 : Int32))] [(.int (1 : Int32)), (.ref b1)])) _
              refine st108 _ ?_
              show Steps p.tables e below (T108.setTop (mkF m 220 #[.val (.long q1), .second, .val (.int p2), .val (.int (1 : Int32)), .val (.ref b1), .val (.int (1 : Int32)), .val (.int (0 : Int32)), .val (.int (1 : Int32)), .val (.int (2 : Int32))] [(.int (own_v1_f1 (nar .byte (own_b1 q1)) (nar .byte (own_b2 q1)) (nar .byte (own_b3 q1))))])) _
              refine XS.iload X108.here hx rfl (hb hby at_220) rfl ?_
              exact kt
            by_cases hc29 : (own_v1_f1 (nar .byte (own_b1 q1)) (nar .byte (own_b2 q1)) (nar .byte (own_b3 q1))) = (2 : Int32)
            ·
              obtain ⟨fs, hr, hrun, hended, hW, hsame⟩ := X108.leave (v := some (.int (1 : Int32))) (fun h => by rw [Bd.returns] at h; cases h)
              refine ⟨_, _, k110 _ ?_, hrun, hended, _, _, rfl, ?_, ⟨_, rfl⟩, hW, hsame.mono (by decide) (by decide)⟩
              · show Steps p.tables e below (T108.setTop (mkF m 222 #[.val (.long q1), .second, .val (.int p2), .val (.int (1 : Int32)), .val (.ref b1), .val (.int (1 : Int32)), .val (.int (0 : Int32)), .val (.int (1 : Int32)), .val (.int (2 : Int32))] [(.int (2 : Int32)), (.int (own_v1_f1 (nar .byte (own_b1 q1)) (nar .byte (own_b2 q1)) (nar .byte (own_b3 q1))))])) _
                refine XS.icmpNo X108.here hx rfl (hb hby at_222) rfl (teq hc29).2 ?_
                show Steps p.tables e below (T108.setTop (mkF m 225 #[.val (.long q1), .second, .val (.int p2), .val (.int (1 : Int32)), .val (.ref b1), .val (.int (1 : Int32)), .val (.int (0 : Int32)), .val (.int (1 : Int32)), .val (.int (2 : Int32))] [])) _
                refine XS.iconst X108.here hx rfl (hb hby at_225) ?_
                show Steps p.tables e below (T108.setTop (mkF m 226 #[.val (.long q1), .second, .val (.int p2), .val (.int (1 : Int32)), .val (.ref b1), .val (.int (1 : Int32)), .val (.int (0 : Int32)), .val (.int (1 : Int32)), .val (.int (2 : Int32))] [(.int (1 : Int32))])) _
                refine XS.goto X108.here hx rfl (pc0 := 226) (pc' := 230) rfl (hb hby at_226) (by decide) (by decide) ?_
                show Steps p.tables e below (T108.setTop (mkF m 230 #[.val (.long q1), .second, .val (.int p2), .val (.int (1 : Int32)), .val (.ref b1), .val (.int (1 : Int32)), .val (.int (0 : Int32)), .val (.int (1 : Int32)), .val (.int (2 : Int32))] [(.int (1 : Int32))])) _
                exact retN X108 hx (t := .boolean) Bd.returns (by simp) (hb hby at_230) hr
              · show own_Q0 Z q1 p2 h0 n0 _ T108.heap _
                rw [e108]
                exact ⟨(by rw [own_f0, if_neg hc1, if_pos hc17, if_neg hc18, if_pos hc26, if_neg hc27, if_pos hc29]), N109⟩
            ·
              obtain ⟨fs, hr, hrun, hended, hW, hsame⟩ := X108.leave (v := some (.int (0 : Int32))) (fun h => by rw [Bd.returns] at h; cases h)
              refine ⟨_, _, k110 _ ?_, hrun, hended, _, _, rfl, ?_, ⟨_, rfl⟩, hW, hsame.mono (by decide) (by decide)⟩
              · show Steps p.tables e below (T108.setTop (mkF m 222 #[.val (.long q1), .second, .val (.int p2), .val (.int (1 : Int32)), .val (.ref b1), .val (.int (1 : Int32)), .val (.int (0 : Int32)), .val (.int (1 : Int32)), .val (.int (2 : Int32))] [(.int (2 : Int32)), (.int (own_v1_f1 (nar .byte (own_b1 q1)) (nar .byte (own_b2 q1)) (nar .byte (own_b3 q1))))])) _
                refine XS.icmpYes X108.here hx rfl (pc0 := 222) (pc' := 229) rfl (hb hby at_222) rfl (feq hc29).2 (by decide) (by decide) ?_
                show Steps p.tables e below (T108.setTop (mkF m 229 #[.val (.long q1), .second, .val (.int p2), .val (.int (1 : Int32)), .val (.ref b1), .val (.int (1 : Int32)), .val (.int (0 : Int32)), .val (.int (1 : Int32)), .val (.int (2 : Int32))] [])) _
                refine XS.iconst X108.here hx rfl (hb hby at_229) ?_
                show Steps p.tables e below (T108.setTop (mkF m 230 #[.val (.long q1), .second, .val (.int p2), .val (.int (1 : Int32)), .val (.ref b1), .val (.int (1 : Int32)), .val (.int (0 : Int32)), .val (.int (1 : Int32)), .val (.int (2 : Int32))] [(.int (0 : Int32))])) _
                exact retN X108 hx (t := .boolean) Bd.returns (by simp) (hb hby at_230) hr
              · show own_Q0 Z q1 p2 h0 n0 _ T108.heap _
                rw [e108]
                exact ⟨(by rw [own_f0, if_neg hc1, if_pos hc17, if_neg hc18, if_pos hc26, if_neg hc27, if_neg hc29]), N109⟩
        ·
          obtain ⟨cl111, Ar111, qk111, Sz111, Nn111, Hs111, Gf111⟩ := id V_b1_32
          have hin111 : ¬ ((3 : Int32) < 0 ∨ cl111.slots.size ≤ ((3 : Int32)).toNatClampNeg) := inb_of Sz111 ⟨by decide, by decide⟩
          have hat111 : cl111.slots[((3 : Int32)).toNatClampNeg]? = some (.int (nar .byte (own_b3 q1))) := Has.at Hs111 hin111 rfl
          have k112 : ∀ t, Steps p.tables e below (T32.setTop (mkF m 137 #[.val (.long q1), .second, .val (.int p2), .val (.int (1 : Int32)), .val (.ref b1), .val (.int (1 : Int32)), .val (.int (1 : Int32)), .unset, .unset] [(.int ((nar .byte (own_b3 q1)) &&& (128 : Int32)))])) t → Steps p.tables e below (s₁.setTop (entryFrame m #[(.long q1), (.int p2)] maxLocals)) t := by
            intro t kt
            refine k102 t ?_
            show Steps p.tables e below (T32.setTop (mkF m 117 #[.val (.long q1), .second, .val (.int p2), .val (.int (1 : Int32)), .val (.ref b1), .val (.int (1 : Int32)), .unset, .unset, .unset] [(.int ((nar .byte (own_b2 q1)) &&& (128 : Int32)))])) _
            refine XS.ifNo X32.here hx rfl (hb hby at_117) rfl ((if0 _ _).trans (feq hc26).1) ?_
            show Steps p.tables e below (T32.setTop (mkF m 120 #[.val (.long q1), .second, .val (.int p2), .val (.int (1 : Int32)), .val (.ref b1), .val (.int (1 : Int32)), .unset, .unset, .unset] [])) _
            refine XS.iconst X32.here hx rfl (hb hby at_120) ?_
            show Steps p.tables e below (T32.setTop (mkF m 121 #[.val (.long q1), .second, .val (.int p2), .val (.int (1 : Int32)), .val (.ref b1), .val (.int (1 : Int32)), .unset, .unset, .unset] [(.int (1 : Int32))])) _
            refine XS.goto X32.here hx rfl (pc0 := 121) (pc' := 125) rfl (hb hby at_121) (by decide) (by decide) ?_
            show Steps p.tables e below (T32.setTop (mkF m 125 #[.val (.long q1), .second, .val (.int p2), .val (.int (1 : Int32)), .val (.ref b1), .val (.int (1 : Int32)), .unset, .unset, .unset] [(.int (1 : Int32))])) _
            refine XS.istore X32.here hx rfl (hb hby at_125) rfl (l' := #[.val (.long q1), .second, .val (.int p2), .val (.int (1 : Int32)), .val (.ref b1), .val (.int (1 : Int32)), .val (.int (1 : Int32)), .unset, .unset]) rfl ?_
            show Steps p.tables e below (T32.setTop (mkF m 127 #[.val (.long q1), .second, .val (.int p2), .val (.int (1 : Int32)), .val (.ref b1), .val (.int (1 : Int32)), .val (.int (1 : Int32)), .unset, .unset] [])) _
            refine XS.aload X32.here hx rfl (hb hby at_127) rfl rfl ?_
            show Steps p.tables e below (T32.setTop (mkF m 129 #[.val (.long q1), .second, .val (.int p2), .val (.int (1 : Int32)), .val (.ref b1), .val (.int (1 : Int32)), .val (.int (1 : Int32)), .unset, .unset] [(.ref b1)])) _
            refine XS.iloadN X32.here hx rfl (hb hby at_129) rfl ?_
            show Steps p.tables e below (T32.setTop (mkF m 130 #[.val (.long q1), .second, .val (.int p2), .val (.int (1 : Int32)), .val (.ref b1), .val (.int (1 : Int32)), .val (.int (1 : Int32)), .unset, .unset] [(.int (1 : Int32)), (.ref b1)])) _
            refine XS.iconst X32.here hx rfl (hb hby at_130) ?_
            show Steps p.tables e below (T32.setTop (mkF m 131 #[.val (.long q1), .second, .val (.int p2), .val (.int (1 : Int32)), .val (.ref b1), .val (.int (1 : Int32)), .val (.int (1 : Int32)), .unset, .unset] [(.int (2 : Int32)), (.int (1 : Int32)), (.ref b1)])) _
            refine XS.iadd X32.here hx rfl (hb hby at_131) rfl ?_
            show Steps p.tables e below (T32.setTop (mkF m 132 #[.val (.long q1), .second, .val (.int p2), .val (.int (1 : Int32)), .val (.ref b1), .val (.int (1 : Int32)), .val (.int (1 : Int32)), .unset, .unset] [(.int (3 : Int32)), (.ref b1)])) _
            refine X32.baloadBytes hx (j := (3 : Int32)) (v := (.int (nar .byte (own_b3 q1)))) (by rw [e32]; exact Ar111.1) (State.isArrayOf_alike hZ.alike Ar111.2.1) Ar111.2.2 hin111 hat111 (g := (mkF m 132 #[.val (.long q1), .second, .val (.int p2), .val (.int (1 : Int32)), .val (.ref b1), .val (.int (1 : Int32)), .val (.int (1 : Int32)), .unset, .unset] [(.int (3 : Int32)), (.ref b1)])) rfl rfl (hb hby at_132) _ ?_
            show Steps p.tables e below (T32.setTop (mkF m 133 #[.val (.long q1), .second, .val (.int p2), .val (.int (1 : Int32)), .val (.ref b1), .val (.int (1 : Int32)), .val (.int (1 : Int32)), .unset, .unset] [(.int (nar .byte (own_b3 q1)))])) _
            refine XS.sipush X32.here hx rfl (hb hby at_133) ?_
            show Steps p.tables e below (T32.setTop (mkF m 136 #[.val (.long q1), .second, .val (.int p2), .val (.int (1 : Int32)), .val (.ref b1), .val (.int (1 : Int32)), .val (.int (1 : Int32)), .unset, .unset] [(.int (128 : Int32)), (.int (nar .byte (own_b3 q1)))])) _
            refine XS.iand X32.here hx rfl (hb hby at_136) rfl ?_
            exact kt
          by_cases hc30 : ((nar .byte (own_b3 q1)) &&& (128 : Int32)) = (0 : Int32)
          ·
            obtain ⟨v113, _, ⟨T113, L113, k113, n113⟩, -, X113, ⟨Lc113, hQ113, l113, y113, z113⟩, st113⟩ := Jvm.LawKit.callS X32 hx (y := (⟨"com/example/castd/castd/mqtt/VariableByteInteger", "length", "([BI)I"⟩ : MethodName)) hown (mvT hZ (hw _ (List.mem_of_getElem? (i := 1) rfl))) (mvT hZ (hw _ (List.mem_of_getElem? (i := 2) rfl))) (mvT hZ (hw _ (List.mem_of_getElem? (i := 3) rfl))) (mvT hZ (hw _ (List.mem_of_getElem? (i := 4) rfl))) (by decide) (backOf (W := 0) (own_v1_rm1 l Z a0 hw [] b1 k1 (nar .byte (own_b0 q1)) (nar .byte (own_b1 q1)) (nar .byte (own_b2 q1)) (nar .byte (own_b3 q1)) (nar .byte (own_b4 q1)) (nar .byte (own_b5 q1)) (nar .byte (own_b6 q1)) (nar .byte (own_b7 q1)) h32 n0 Z34 V_b1_32 (by intro h1 h2 h3; first | contradiction | exact own_clr _)) hZ (hw _ (List.mem_of_getElem? (i := 4) rfl)) (hw _ (List.mem_of_getElem? (i := 3) rfl)) (by decide) (by decide)) (g := (mkF m 217 #[.val (.long q1), .second, .val (.int p2), .val (.int (1 : Int32)), .val (.ref b1), .val (.int (1 : Int32)), .val (.int (1 : Int32)), .val (.int (0 : Int32)), .val (.int (3 : Int32))] [(.int (1 : Int32)), (.ref b1)])) rfl (by rw [hml]; rfl) (argsL := [(.ref b1), (.int (1 : Int32))]) (rest := []) (lenOf own_pd25 rfl) rfl (by show 2 * 0 + _ ≤ _; exact Nat.le_of_eq rfl) (hb hby at_217) (fun _ _ => ⟨rfl, e32, (by decide : 1 + 0 ≤ _), (by decide : 8 + 0 ≤ _)⟩)
            dsimp only [Pt.U, Pt.locs, Pt.cells, Pt.slots] at X113 l113 y113 z113 st113 hQ113
            subst l113 y113 z113
            obtain ⟨rfl, N113q, e113⟩ := hQ113
            have N114 := Fr.app N33 N113q
            have k115 : ∀ t, Steps p.tables e below (T113.setTop (mkF m 222 #[.val (.long q1), .second, .val (.int p2), .val (.int (1 : Int32)), .val (.ref b1), .val (.int (1 : Int32)), .val (.int (1 : Int32)), .val (.int (0 : Int32)), .val (.int (3 : Int32))] [(.int (3 : Int32)), (.int (own_v1_f1 (nar .byte (own_b1 q1)) (nar .byte (own_b2 q1)) (nar .byte (own_b3 q1))))])) t → Steps p.tables e below (s₁.setTop (entryFrame m #[(.long q1), (.int p2)] maxLocals)) t := by
              intro t kt
              refine k112 t ?_
              show Steps p.tables e below (T32.setTop (mkF m 137 #[.val (.long q1), .second, .val (.int p2), .val (.int (1 : Int32)), .val (.ref b1), .val (.int (1 : Int32)), .val (.int (1 : Int32)), .unset, .unset] [(.int ((nar .byte (own_b3 q1)) &&& (128 : Int32)))])) _
              refine XS.ifYes X32.here hx rfl (pc0 := 137) (pc' := 144) rfl (hb hby at_137) rfl ((if0 _ _).trans (teq hc30).1) (by decide) (by decide) ?_
              show Steps p.tables e below (T32.setTop (mkF m 144 #[.val (.long q1), .second, .val (.int p2), .val (.int (1 : Int32)), .val (.ref b1), .val (.int (1 : Int32)), .val (.int (1 : Int32)), .unset, .unset] [])) _
              refine XS.iconst X32.here hx rfl (hb hby at_144) ?_
              show Steps p.tables e below (T32.setTop (mkF m 145 #[.val (.long q1), .second, .val (.int p2), .val (.int (1 : Int32)), .val (.ref b1), .val (.int (1 : Int32)), .val (.int (1 : Int32)), .unset, .unset] [(.int (0 : Int32))])) _
              refine XS.istore X32.here hx rfl (hb hby at_145) rfl (l' := #[.val (.long q1), .second, .val (.int p2), .val (.int (1 : Int32)), .val (.ref b1), .val (.int (1 : Int32)), .val (.int (1 : Int32)), .val (.int (0 : Int32)), .unset]) rfl ?_
              show Steps p.tables e below (T32.setTop (mkF m 147 #[.val (.long q1), .second, .val (.int p2), .val (.int (1 : Int32)), .val (.ref b1), .val (.int (1 : Int32)), .val (.int (1 : Int32)), .val (.int (0 : Int32)), .unset] [])) _
              refine XS.iload X32.here hx rfl (hb hby at_147) rfl ?_
              show Steps p.tables e below (T32.setTop (mkF m 149 #[.val (.long q1), .second, .val (.int p2), .val (.int (1 : Int32)), .val (.ref b1), .val (.int (1 : Int32)), .val (.int (1 : Int32)), .val (.int (0 : Int32)), .unset] [(.int (1 : Int32))])) _
              refine XS.ifNo X32.here hx rfl (hb hby at_149) rfl ((if0 _ _).trans (feq (by decide : ¬ ((1 : Int32) = (0 : Int32)))).1) ?_
              show Steps p.tables e below (T32.setTop (mkF m 152 #[.val (.long q1), .second, .val (.int p2), .val (.int (1 : Int32)), .val (.ref b1), .val (.int (1 : Int32)), .val (.int (1 : Int32)), .val (.int (0 : Int32)), .unset] [])) _
              refine XS.iload X32.here hx rfl (hb hby at_152) rfl ?_
              show Steps p.tables e below (T32.setTop (mkF m 154 #[.val (.long q1), .second, .val (.int p2), .val (.int (1 : Int32)), .val (.ref b1), .val (.int (1 : Int32)), .val (.int (1 : Int32)), .val (.int (0 : Int32)), .unset] [(.int (1 : Int32))])) _
              refine XS.ifNo X32.here hx rfl (hb hby at_154) rfl ((if0 _ _).trans (feq (by decide : ¬ ((1 : Int32) = (0 : Int32)))).1) ?_
              show Steps p.tables e below (T32.setTop (mkF m 157 #[.val (.long q1), .second, .val (.int p2), .val (.int (1 : Int32)), .val (.ref b1), .val (.int (1 : Int32)), .val (.int (1 : Int32)), .val (.int (0 : Int32)), .unset] [])) _
              refine XS.iload X32.here hx rfl (hb hby at_157) rfl ?_
              show Steps p.tables e below (T32.setTop (mkF m 159 #[.val (.long q1), .second, .val (.int p2), .val (.int (1 : Int32)), .val (.ref b1), .val (.int (1 : Int32)), .val (.int (1 : Int32)), .val (.int (0 : Int32)), .unset] [(.int (0 : Int32))])) _
              refine XS.ifYes X32.here hx rfl (pc0 := 159) (pc' := 178) rfl (hb hby at_159) rfl ((if0 _ _).trans (teq (by decide : (0 : Int32) = (0 : Int32))).1) (by decide) (by decide) ?_
              show Steps p.tables e below (T32.setTop (mkF m 178 #[.val (.long q1), .second, .val (.int p2), .val (.int (1 : Int32)), .val (.ref b1), .val (.int (1 : Int32)), .val (.int (1 : Int32)), .val (.int (0 : Int32)), .unset] [])) _
              refine XS.iload X32.here hx rfl (hb hby at_178) rfl ?_
              show Steps p.tables e below (T32.setTop (mkF m 180 #[.val (.long q1), .second, .val (.int p2), .val (.int (1 : Int32)), .val (.ref b1), .val (.int (1 : Int32)), .val (.int (1 : Int32)), .val (.int (0 : Int32)), .unset] [(.int (1 : Int32))])) _
              refine XS.ifYes X32.here hx rfl (pc0 := 180) (pc' := 189) rfl (hb hby at_180) rfl ((if0 _ _).trans (feq (by decide : ¬ ((1 : Int32) = (0 : Int32)))).2) (by decide) (by decide) ?_
              show Steps p.tables e below (T32.setTop (mkF m 189 #[.val (.long q1), .second, .val (.int p2), .val (.int (1 : Int32)), .val (.ref b1), .val (.int (1 : Int32)), .val (.int (1 : Int32)), .val (.int (0 : Int32)), .unset] [])) _
              refine XS.iload X32.here hx rfl (hb hby at_189) rfl ?_
              show Steps p.tables e below (T32.setTop (mkF m 191 #[.val (.long q1), .second, .val (.int p2), .val (.int (1 : Int32)), .val (.ref b1), .val (.int (1 : Int32)), .val (.int (1 : Int32)), .val (.int (0 : Int32)), .unset] [(.int (1 : Int32))])) _
              refine XS.ifYes X32.here hx rfl (pc0 := 191) (pc' := 200) rfl (hb hby at_191) rfl ((if0 _ _).trans (feq (by decide : ¬ ((1 : Int32) = (0 : Int32)))).2) (by decide) (by decide) ?_
              show Steps p.tables e below (T32.setTop (mkF m 200 #[.val (.long q1), .second, .val (.int p2), .val (.int (1 : Int32)), .val (.ref b1), .val (.int (1 : Int32)), .val (.int (1 : Int32)), .val (.int (0 : Int32)), .unset] [])) _
              refine XS.iload X32.here hx rfl (hb hby at_200) rfl ?_
              show Steps p.tables e below (T32.setTop (mkF m 202 #[.val (.long q1), .second, .val (.int p2), .val (.int (1 : Int32)), .val (.ref b1), .val (.int (1 : Int32)), .val (.int (1 : Int32)), .val (.int (0 : Int32)), .unset] [(.int (0 : Int32))])) _
              refine XS.ifNo X32.here hx rfl (hb hby at_202) rfl ((if0 _ _).trans (teq (by decide : (0 : Int32) = (0 : Int32))).2) ?_
              show Steps p.tables e below (T32.setTop (mkF m 205 #[.val (.long q1), .second, .val (.int p2), .val (.int (1 : Int32)), .val (.ref b1), .val (.int (1 : Int32)), .val (.int (1 : Int32)), .val (.int (0 : Int32)), .unset] [])) _
              refine XS.iconst X32.here hx rfl (hb hby at_205) ?_
              show Steps p.tables e below (T32.setTop (mkF m 206 #[.val (.long q1), .second, .val (.int p2), .val (.int (1 : Int32)), .val (.ref b1), .val (.int (1 : Int32)), .val (.int (1 : Int32)), .val (.int (0 : Int32)), .unset] [(.int (3 : Int32))])) _
              refine XS.istore X32.here hx rfl (hb hby at_206) rfl (l' := #[.val (.long q1), .second, .val (.int p2), .val (.int (1 : Int32)), .val (.ref b1), .val (.int (1 : Int32)), .val (.int (1 : Int32)), .val (.int (0 : Int32)), .val (.int (3 : Int32))]) rfl ?_
              show Steps p.tables e below (T32.setTop (mkF m 208 #[.val (.long q1), .second, .val (.int p2), .val (.int (1 : Int32)), .val (.ref b1), .val (.int (1 : Int32)), .val (.int (1 : Int32)), .val (.int (0 : Int32)), .val (.int (3 : Int32))] [])) _
              refine XS.goto X32.here hx rfl (pc0 := 208) (pc' := 214) rfl (hb hby at_208) (by decide) (by decide) ?_
              show Steps p.tables e below (T32.setTop (mkF m 214 #[.val (.long q1), .second, .val (.int p2), .val (.int (1 : Int32)), .val (.ref b1), .val (.int (1 : Int32)), .val (.int (1 : Int32)), .val (.int (0 : Int32)), .val (.int (3 : Int32))] [])) _
              refine XS.aload X32.here hx rfl (hb hby at_214) rfl rfl ?_
              show Steps p.tables e below (T32.setTop (mkF m 216 #[.val (.long q1), .second, .val (.int p2), .val (.int (1 : Int32)), .val (.ref b1), .val (.int (1 : Int32)), .val (.int (1 : Int32)), .val (.int (0 : Int32)), .val (.int (3 : Int32))] [(.ref b1)])) _
              refine XS.iloadN X32.here hx rfl (hb hby at_216) rfl ?_
              show Steps p.tables e below (T32.setTop (mkF m 217 #[.val (.long q1), .second, .val (.int p2), .val (.int (1 : Int32)), .val (.ref b1), .val (.int (1 : Int32)), .val (.int (1 : Int32)), .val (.int (0 : Int32)), .val (.int (3 : Int32))] [(.int (1 : Int32)), (.ref b1)])) _
              refine st113 _ ?_
              show Steps p.tables e below (T113.setTop (mkF m 220 #[.val (.long q1), .second, .val (.int p2), .val (.int (1 : Int32)), .val (.ref b1), .val (.int (1 : Int32)), .val (.int (1 : Int32)), .val (.int (0 : Int32)), .val (.int (3 : Int32))] [(.int (own_v1_f1 (nar .byte (own_b1 q1)) (nar .byte (own_b2 q1)) (nar .byte (own_b3 q1))))])) _
              refine XS.iload X113.here hx rfl (hb hby at_220) rfl ?_
              exact kt
            by_cases hc31 : (own_v1_f1 (nar .byte (own_b1 q1)) (nar .byte (own_b2 q1)) (nar .byte (own_b3 q1))) = (3 : Int32)
            ·
              obtain ⟨fs, hr, hrun, hended, hW, hsame⟩ := X113.leave (v := some (.int (1 : Int32))) (fun h => by rw [Bd.returns] at h; cases h)
              refine ⟨_, _, k115 _ ?_, hrun, hended, _, _, rfl, ?_, ⟨_, rfl⟩, hW, hsame.mono (by decide) (by decide)⟩
              · show Steps p.tables e below (T113.setTop (mkF m 222 #[.val (.long q1), .second, .val (.int p2), .val (.int (1 : Int32)), .val (.ref b1), .val (.int (1 : Int32)), .val (.int (1 : Int32)), .val (.int (0 : Int32)), .val (.int (3 : Int32))] [(.int (3 : Int32)), (.int (own_v1_f1 (nar .byte (own_b1 q1)) (nar .byte (own_b2 q1)) (nar .byte (own_b3 q1))))])) _
                refine XS.icmpNo X113.here hx rfl (hb hby at_222) rfl (teq hc31).2 ?_
                show Steps p.tables e below (T113.setTop (mkF m 225 #[.val (.long q1), .second, .val (.int p2), .val (.int (1 : Int32)), .val (.ref b1), .val (.int (1 : Int32)), .val (.int (1 : Int32)), .val (.int (0 : Int32)), .val (.int (3 : Int32))] [])) _
                refine XS.iconst X113.here hx rfl (hb hby at_225) ?_
                show Steps p.tables e below (T113.setTop (mkF m 226 #[.val (.long q1), .second, .val (.int p2), .val (.int (1 : Int32)), .val (.ref b1), .val (.int (1 : Int32)), .val (.int (1 : Int32)), .val (.int (0 : Int32)), .val (.int (3 : Int32))] [(.int (1 : Int32))])) _
                refine XS.goto X113.here hx rfl (pc0 := 226) (pc' := 230) rfl (hb hby at_226) (by decide) (by decide) ?_
                show Steps p.tables e below (T113.setTop (mkF m 230 #[.val (.long q1), .second, .val (.int p2), .val (.int (1 : Int32)), .val (.ref b1), .val (.int (1 : Int32)), .val (.int (1 : Int32)), .val (.int (0 : Int32)), .val (.int (3 : Int32))] [(.int (1 : Int32))])) _
                exact retN X113 hx (t := .boolean) Bd.returns (by simp) (hb hby at_230) hr
              · show own_Q0 Z q1 p2 h0 n0 _ T113.heap _
                rw [e113]
                exact ⟨(by rw [own_f0, if_neg hc1, if_pos hc17, if_neg hc18, if_neg hc26, if_pos hc30, if_pos hc31]), N114⟩
            ·
              obtain ⟨fs, hr, hrun, hended, hW, hsame⟩ := X113.leave (v := some (.int (0 : Int32))) (fun h => by rw [Bd.returns] at h; cases h)
              refine ⟨_, _, k115 _ ?_, hrun, hended, _, _, rfl, ?_, ⟨_, rfl⟩, hW, hsame.mono (by decide) (by decide)⟩
              · show Steps p.tables e below (T113.setTop (mkF m 222 #[.val (.long q1), .second, .val (.int p2), .val (.int (1 : Int32)), .val (.ref b1), .val (.int (1 : Int32)), .val (.int (1 : Int32)), .val (.int (0 : Int32)), .val (.int (3 : Int32))] [(.int (3 : Int32)), (.int (own_v1_f1 (nar .byte (own_b1 q1)) (nar .byte (own_b2 q1)) (nar .byte (own_b3 q1))))])) _
                refine XS.icmpYes X113.here hx rfl (pc0 := 222) (pc' := 229) rfl (hb hby at_222) rfl (feq hc31).2 (by decide) (by decide) ?_
                show Steps p.tables e below (T113.setTop (mkF m 229 #[.val (.long q1), .second, .val (.int p2), .val (.int (1 : Int32)), .val (.ref b1), .val (.int (1 : Int32)), .val (.int (1 : Int32)), .val (.int (0 : Int32)), .val (.int (3 : Int32))] [])) _
                refine XS.iconst X113.here hx rfl (hb hby at_229) ?_
                show Steps p.tables e below (T113.setTop (mkF m 230 #[.val (.long q1), .second, .val (.int p2), .val (.int (1 : Int32)), .val (.ref b1), .val (.int (1 : Int32)), .val (.int (1 : Int32)), .val (.int (0 : Int32)), .val (.int (3 : Int32))] [(.int (0 : Int32))])) _
                exact retN X113 hx (t := .boolean) Bd.returns (by simp) (hb hby at_230) hr
              · show own_Q0 Z q1 p2 h0 n0 _ T113.heap _
                rw [e113]
                exact ⟨(by rw [own_f0, if_neg hc1, if_pos hc17, if_neg hc18, if_neg hc26, if_pos hc30, if_neg hc31]), N114⟩
          ·
            obtain ⟨cl116, Ar116, qk116, Sz116, Nn116, Hs116, Gf116⟩ := id V_b1_32
            have hin116 : ¬ ((4 : Int32) < 0 ∨ cl116.slots.size ≤ ((4 : Int32)).toNatClampNeg) := inb_of Sz116 ⟨by decide, by decide⟩
            have hat116 : cl116.slots[((4 : Int32)).toNatClampNeg]? = some (.int (nar .byte (own_b4 q1))) := Has.at Hs116 hin116 rfl
            obtain ⟨cl117, Ar117, qk117, Sz117, Nn117, Hs117, Gf117⟩ := id V_b1_32
            have hin117 : ¬ ((4 : Int32) < 0 ∨ cl117.slots.size ≤ ((4 : Int32)).toNatClampNeg) := inb_of Sz117 ⟨by decide, by decide⟩
            obtain ⟨T118, h118, X118, e118, W118, st118⟩ := stB X32 hx hZ e32 Ar117 (j := (4 : Int32)) hin117 (g := (mkF m 177 #[.val (.long q1), .second, .val (.int p2), .val (.int (1 : Int32)), .val (.ref b1), .val (.int (1 : Int32)), .val (.int (1 : Int32)), .val (.int (1 : Int32)), .unset] [(.int (((nar .byte (own_b4 q1)) &&& (127 : Int32)).toInt8.toInt32)), (.int (4 : Int32)), (.ref b1)])) rfl rfl (hb hby at_177)
            have V_b1_118 : Arv Z h118 b1 k1 .byte (8 : Int32) [(.int (nar .byte (own_b0 q1))), (.int (nar .byte (own_b1 q1))), (.int (nar .byte (own_b2 q1))), (.int (nar .byte (own_b3 q1))), (.int (nar .byte (((nar .byte (own_b4 q1)) &&& (127 : Int32)).toInt8.toInt32))), (.int (nar .byte (own_b5 q1))), (.int (nar .byte (own_b6 q1))), (.int (nar .byte (own_b7 q1)))] (.int (0 : Int32)) := Arv.set Ar117 qk117 Sz117 Nn117 Hs117 Gf117 (fits_nar_byte _) W118 4 rfl (Nat.le_of_ble_eq_true rfl)
            have N119 := Fr.snoc X118 N33 g_b1
            have Z120 := Nat.le_trans Z34 (Keep.of_wr W118).1
            obtain ⟨v121, _, ⟨T121, L121, k121, n121⟩, -, X121, ⟨Lc121, hQ121, l121, y121, z121⟩, st121⟩ := Jvm.LawKit.callS X118 hx (y := (⟨"com/example/castd/castd/mqtt/VariableByteInteger", "length", "([BI)I"⟩ : MethodName)) hown (mvT hZ (hw _ (List.mem_of_getElem? (i := 1) rfl))) (mvT hZ (hw _ (List.mem_of_getElem? (i := 2) rfl))) (mvT hZ (hw _ (List.mem_of_getElem? (i := 3) rfl))) (mvT hZ (hw _ (List.mem_of_getElem? (i := 4) rfl))) (by decide) (backOf (W := 0) (own_v1_rm1 l Z a0 hw [] b1 k1 (nar .byte (own_b0 q1)) (nar .byte (own_b1 q1)) (nar .byte (own_b2 q1)) (nar .byte (own_b3 q1)) (nar .byte (((nar .byte (own_b4 q1)) &&& (127 : Int32)).toInt8.toInt32)) (nar .byte (own_b5 q1)) (nar .byte (own_b6 q1)) (nar .byte (own_b7 q1)) h118 n0 Z120 V_b1_118 (by intro h1 h2 h3; first | contradiction | exact own_clr _)) hZ (hw _ (List.mem_of_getElem? (i := 4) rfl)) (hw _ (List.mem_of_getElem? (i := 3) rfl)) (by decide) (by decide)) (g := (mkF m 217 #[.val (.long q1), .second, .val (.int p2), .val (.int (1 : Int32)), .val (.ref b1), .val (.int (1 : Int32)), .val (.int (1 : Int32)), .val (.int (1 : Int32)), .val (.int (4 : Int32))] [(.int (1 : Int32)), (.ref b1)])) rfl (by rw [hml]; rfl) (argsL := [(.ref b1), (.int (1 : Int32))]) (rest := []) (lenOf own_pd25 rfl) rfl (by show 2 * 0 + _ ≤ _; exact Nat.le_of_eq rfl) (hb hby at_217) (fun _ _ => ⟨rfl, e118, (by decide : 1 + 0 ≤ _), (by decide : 8 + 0 ≤ _)⟩)
            dsimp only [Pt.U, Pt.locs, Pt.cells, Pt.slots] at X121 l121 y121 z121 st121 hQ121
            subst l121 y121 z121
            obtain ⟨rfl, N121q, e121⟩ := hQ121
            have N122 := Fr.app N119 N121q
            have k123 : ∀ t, Steps p.tables e below (T121.setTop (mkF m 222 #[.val (.long q1), .second, .val (.int p2), .val (.int (1 : Int32)), .val (.ref b1), .val (.int (1 : Int32)), .val (.int (1 : Int32)), .val (.int (1 : Int32)), .val (.int (4 : Int32))] [(.int (4 : Int32)), (.int (own_v1_f1 (nar .byte (own_b1 q1)) (nar .byte (own_b2 q1)) (nar .byte (own_b3 q1))))])) t → Steps p.tables e below (s₁.setTop (entryFrame m #[(.long q1), (.int p2)] maxLocals)) t := by
              intro t kt
              refine k112 t ?_
              show Steps p.tables e below (T32.setTop (mkF m 137 #[.val (.long q1), .second, .val (.int p2), .val (.int (1 : Int32)), .val (.ref b1), .val (.int (1 : Int32)), .val (.int (1 : Int32)), .unset, .unset] [(.int ((nar .byte (own_b3 q1)) &&& (128 : Int32)))])) _
              refine XS.ifNo X32.here hx rfl (hb hby at_137) rfl ((if0 _ _).trans (feq hc30).1) ?_
              show Steps p.tables e below (T32.setTop (mkF m 140 #[.val (.long q1), .second, .val (.int p2), .val (.int (1 : Int32)), .val (.ref b1), .val (.int (1 : Int32)), .val (.int (1 : Int32)), .unset, .unset] [])) _
              refine XS.iconst X32.here hx rfl (hb hby at_140) ?_
              show Steps p.tables e below (T32.setTop (mkF m 141 #[.val (.long q1), .second, .val (.int p2), .val (.int (1 : Int32)), .val (.ref b1), .val (.int (1 : Int32)), .val (.int (1 : Int32)), .unset, .unset] [(.int (1 : Int32))])) _
              refine XS.goto X32.here hx rfl (pc0 := 141) (pc' := 145) rfl (hb hby at_141) (by decide) (by decide) ?_
              show Steps p.tables e below (T32.setTop (mkF m 145 #[.val (.long q1), .second, .val (.int p2), .val (.int (1 : Int32)), .val (.ref b1), .val (.int (1 : Int32)), .val (.int (1 : Int32)), .unset, .unset] [(.int (1 : Int32))])) _
              refine XS.istore X32.here hx rfl (hb hby at_145) rfl (l' := #[.val (.long q1), .second, .val (.int p2), .val (.int (1 : Int32)), .val (.ref b1), .val (.int (1 : Int32)), .val (.int (1 : Int32)), .val (.int (1 : Int32)), .unset]) rfl ?_
              show Steps p.tables e below (T32.setTop (mkF m 147 #[.val (.long q1), .second, .val (.int p2), .val (.int (1 : Int32)), .val (.ref b1), .val (.int (1 : Int32)), .val (.int (1 : Int32)), .val (.int (1 : Int32)), .unset] [])) _
              refine XS.iload X32.here hx rfl (hb hby at_147) rfl ?_
              show Steps p.tables e below (T32.setTop (mkF m 149 #[.val (.long q1), .second, .val (.int p2), .val (.int (1 : Int32)), .val (.ref b1), .val (.int (1 : Int32)), .val (.int (1 : Int32)), .val (.int (1 : Int32)), .unset] [(.int (1 : Int32))])) _
              refine XS.ifNo X32.here hx rfl (hb hby at_149) rfl ((if0 _ _).trans (feq (by decide : ¬ ((1 : Int32) = (0 : Int32)))).1) ?_
              show Steps p.tables e below (T32.setTop (mkF m 152 #[.val (.long q1), .second, .val (.int p2), .val (.int (1 : Int32)), .val (.ref b1), .val (.int (1 : Int32)), .val (.int (1 : Int32)), .val (.int (1 : Int32)), .unset] [])) _
              refine XS.iload X32.here hx rfl (hb hby at_152) rfl ?_
              show Steps p.tables e below (T32.setTop (mkF m 154 #[.val (.long q1), .second, .val (.int p2), .val (.int (1 : Int32)), .val (.ref b1), .val (.int (1 : Int32)), .val (.int (1 : Int32)), .val (.int (1 : Int32)), .unset] [(.int (1 : Int32))])) _
              refine XS.ifNo X32.here hx rfl (hb hby at_154) rfl ((if0 _ _).trans (feq (by decide : ¬ ((1 : Int32) = (0 : Int32)))).1) ?_
              show Steps p.tables e below (T32.setTop (mkF m 157 #[.val (.long q1), .second, .val (.int p2), .val (.int (1 : Int32)), .val (.ref b1), .val (.int (1 : Int32)), .val (.int (1 : Int32)), .val (.int (1 : Int32)), .unset] [])) _
              refine XS.iload X32.here hx rfl (hb hby at_157) rfl ?_
              show Steps p.tables e below (T32.setTop (mkF m 159 #[.val (.long q1), .second, .val (.int p2), .val (.int (1 : Int32)), .val (.ref b1), .val (.int (1 : Int32)), .val (.int (1 : Int32)), .val (.int (1 : Int32)), .unset] [(.int (1 : Int32))])) _
              refine XS.ifNo X32.here hx rfl (hb hby at_159) rfl ((if0 _ _).trans (feq (by decide : ¬ ((1 : Int32) = (0 : Int32)))).1) ?_
              show Steps p.tables e below (T32.setTop (mkF m 162 #[.val (.long q1), .second, .val (.int p2), .val (.int (1 : Int32)), .val (.ref b1), .val (.int (1 : Int32)), .val (.int (1 : Int32)), .val (.int (1 : Int32)), .unset] [])) _
              refine XS.aload X32.here hx rfl (hb hby at_162) rfl rfl ?_
              show Steps p.tables e below (T32.setTop (mkF m 164 #[.val (.long q1), .second, .val (.int p2), .val (.int (1 : Int32)), .val (.ref b1), .val (.int (1 : Int32)), .val (.int (1 : Int32)), .val (.int (1 : Int32)), .unset] [(.ref b1)])) _
              refine XS.iloadN X32.here hx rfl (hb hby at_164) rfl ?_
              show Steps p.tables e below (T32.setTop (mkF m 165 #[.val (.long q1), .second, .val (.int p2), .val (.int (1 : Int32)), .val (.ref b1), .val (.int (1 : Int32)), .val (.int (1 : Int32)), .val (.int (1 : Int32)), .unset] [(.int (1 : Int32)), (.ref b1)])) _
              refine XS.iconst X32.here hx rfl (hb hby at_165) ?_
              show Steps p.tables e below (T32.setTop (mkF m 166 #[.val (.long q1), .second, .val (.int p2), .val (.int (1 : Int32)), .val (.ref b1), .val (.int (1 : Int32)), .val (.int (1 : Int32)), .val (.int (1 : Int32)), .unset] [(.int (3 : Int32)), (.int (1 : Int32)), (.ref b1)])) _
              refine XS.iadd X32.here hx rfl (hb hby at_166) rfl ?_
              show Steps p.tables e below (T32.setTop (mkF m 167 #[.val (.long q1), .second, .val (.int p2), .val (.int (1 : Int32)), .val (.ref b1), .val (.int (1 : Int32)), .val (.int (1 : Int32)), .val (.int (1 : Int32)), .unset] [(.int (4 : Int32)), (.ref b1)])) _
              refine XS.aload X32.here hx rfl (hb hby at_167) rfl rfl ?_
              show Steps p.tables e below (T32.setTop (mkF m 169 #[.val (.long q1), .second, .val (.int p2), .val (.int (1 : Int32)), .val (.ref b1), .val (.int (1 : Int32)), .val (.int (1 : Int32)), .val (.int (1 : Int32)), .unset] [(.ref b1), (.int (4 : Int32)), (.ref b1)])) _
              refine XS.iloadN X32.here hx rfl (hb hby at_169) rfl ?_
              show Steps p.tables e below (T32.setTop (mkF m 170 #[.val (.long q1), .second, .val (.int p2), .val (.int (1 : Int32)), .val (.ref b1), .val (.int (1 : Int32)), .val (.int (1 : Int32)), .val (.int (1 : Int32)), .unset] [(.int (1 : Int32)), (.ref b1), (.int (4 : Int32)), (.ref b1)])) _
              refine XS.iconst X32.here hx rfl (hb hby at_170) ?_
              show Steps p.tables e below (T32.setTop (mkF m 171 #[.val (.long q1), .second, .val (.int p2), .val (.int (1 : Int32)), .val (.ref b1), .val (.int (1 : Int32)), .val (.int (1 : Int32)), .val (.int (1 : Int32)), .unset] [(.int (3 : Int32)), (.int (1 : Int32)), (.ref b1), (.int (4 : Int32)), (.ref b1)])) _
              refine XS.iadd X32.here hx rfl (hb hby at_171) rfl ?_
              show Steps p.tables e below (T32.setTop (mkF m 172 #[.val (.long q1), .second, .val (.int p2), .val (.int (1 : Int32)), .val (.ref b1), .val (.int (1 : Int32)), .val (.int (1 : Int32)), .val (.int (1 : Int32)), .unset] [(.int (4 : Int32)), (.ref b1), (.int (4 : Int32)), (.ref b1)])) _
              refine X32.baloadBytes hx (j := (4 : Int32)) (v := (.int (nar .byte (own_b4 q1)))) (by rw [e32]; exact Ar116.1) (State.isArrayOf_alike hZ.alike Ar116.2.1) Ar116.2.2 hin116 hat116 (g := (mkF m 172 #[.val (.long q1), .second, .val (.int p2), .val (.int (1 : Int32)), .val (.ref b1), .val (.int (1 : Int32)), .val (.int (1 : Int32)), .val (.int (1 : Int32)), .unset] [(.int (4 : Int32)), (.ref b1), (.int (4 : Int32)), (.ref b1)])) rfl rfl (hb hby at_172) _ ?_
              show Steps p.tables e below (T32.setTop (mkF m 173 #[.val (.long q1), .second, .val (.int p2), .val (.int (1 : Int32)), .val (.ref b1), .val (.int (1 : Int32)), .val (.int (1 : Int32)), .val (.int (1 : Int32)), .unset] [(.int (nar .byte (own_b4 q1))), (.int (4 : Int32)), (.ref b1)])) _
              refine XS.bipush X32.here hx rfl (hb hby at_173) ?_
              show Steps p.tables e below (T32.setTop (mkF m 175 #[.val (.long q1), .second, .val (.int p2), .val (.int (1 : Int32)), .val (.ref b1), .val (.int (1 : Int32)), .val (.int (1 : Int32)), .val (.int (1 : Int32)), .unset] [(.int (127 : Int32)), (.int (nar .byte (own_b4 q1))), (.int (4 : Int32)), (.ref b1)])) _
              refine XS.iand X32.here hx rfl (hb hby at_175) rfl ?_
              show Steps p.tables e below (T32.setTop (mkF m 176 #[.val (.long q1), .second, .val (.int p2), .val (.int (1 : Int32)), .val (.ref b1), .val (.int (1 : Int32)), .val (.int (1 : Int32)), .val (.int (1 : Int32)), .unset] [(.int ((nar .byte (own_b4 q1)) &&& (127 : Int32))), (.int (4 : Int32)), (.ref b1)])) _
              refine XS.i2b X32.here hx rfl (hb hby at_176) rfl ?_
              show Steps p.tables e below (T32.setTop (mkF m 177 #[.val (.long q1), .second, .val (.int p2), .val (.int (1 : Int32)), .val (.ref b1), .val (.int (1 : Int32)), .val (.int (1 : Int32)), .val (.int (1 : Int32)), .unset] [(.int (((nar .byte (own_b4 q1)) &&& (127 : Int32)).toInt8.toInt32)), (.int (4 : Int32)), (.ref b1)])) _
              refine st118 _ ?_
              show Steps p.tables e below (T118.setTop (mkF m 178 #[.val (.long q1), .second, .val (.int p2), .val (.int (1 : Int32)), .val (.ref b1), .val (.int (1 : Int32)), .val (.int (1 : Int32)), .val (.int (1 : Int32)), .unset] [])) _
              refine XS.iload X118.here hx rfl (hb hby at_178) rfl ?_
              show Steps p.tables e below (T118.setTop (mkF m 180 #[.val (.long q1), .second, .val (.int p2), .val (.int (1 : Int32)), .val (.ref b1), .val (.int (1 : Int32)), .val (.int (1 : Int32)), .val (.int (1 : Int32)), .unset] [(.int (1 : Int32))])) _
              refine XS.ifYes X118.here hx rfl (pc0 := 180) (pc' := 189) rfl (hb hby at_180) rfl ((if0 _ _).trans (feq (by decide : ¬ ((1 : Int32) = (0 : Int32)))).2) (by decide) (by decide) ?_
              show Steps p.tables e below (T118.setTop (mkF m 189 #[.val (.long q1), .second, .val (.int p2), .val (.int (1 : Int32)), .val (.ref b1), .val (.int (1 : Int32)), .val (.int (1 : Int32)), .val (.int (1 : Int32)), .unset] [])) _
              refine XS.iload X118.here hx rfl (hb hby at_189) rfl ?_
              show Steps p.tables e below (T118.setTop (mkF m 191 #[.val (.long q1), .second, .val (.int p2), .val (.int (1 : Int32)), .val (.ref b1), .val (.int (1 : Int32)), .val (.int (1 : Int32)), .val (.int (1 : Int32)), .unset] [(.int (1 : Int32))])) _
              refine XS.ifYes X118.here hx rfl (pc0 := 191) (pc' := 200) rfl (hb hby at_191) rfl ((if0 _ _).trans (feq (by decide : ¬ ((1 : Int32) = (0 : Int32)))).2) (by decide) (by decide) ?_
              show Steps p.tables e below (T118.setTop (mkF m 200 #[.val (.long q1), .second, .val (.int p2), .val (.int (1 : Int32)), .val (.ref b1), .val (.int (1 : Int32)), .val (.int (1 : Int32)), .val (.int (1 : Int32)), .unset] [])) _
              refine XS.iload X118.here hx rfl (hb hby at_200) rfl ?_
              show Steps p.tables e below (T118.setTop (mkF m 202 #[.val (.long q1), .second, .val (.int p2), .val (.int (1 : Int32)), .val (.ref b1), .val (.int (1 : Int32)), .val (.int (1 : Int32)), .val (.int (1 : Int32)), .unset] [(.int (1 : Int32))])) _
              refine XS.ifYes X118.here hx rfl (pc0 := 202) (pc' := 211) rfl (hb hby at_202) rfl ((if0 _ _).trans (feq (by decide : ¬ ((1 : Int32) = (0 : Int32)))).2) (by decide) (by decide) ?_
              show Steps p.tables e below (T118.setTop (mkF m 211 #[.val (.long q1), .second, .val (.int p2), .val (.int (1 : Int32)), .val (.ref b1), .val (.int (1 : Int32)), .val (.int (1 : Int32)), .val (.int (1 : Int32)), .unset] [])) _
              refine XS.iconst X118.here hx rfl (hb hby at_211) ?_
              show Steps p.tables e below (T118.setTop (mkF m 212 #[.val (.long q1), .second, .val (.int p2), .val (.int (1 : Int32)), .val (.ref b1), .val (.int (1 : Int32)), .val (.int (1 : Int32)), .val (.int (1 : Int32)), .unset] [(.int (4 : Int32))])) _
              refine XS.istore X118.here hx rfl (hb hby at_212) rfl (l' := #[.val (.long q1), .second, .val (.int p2), .val (.int (1 : Int32)), .val (.ref b1), .val (.int (1 : Int32)), .val (.int (1 : Int32)), .val (.int (1 : Int32)), .val (.int (4 : Int32))]) rfl ?_
              show Steps p.tables e below (T118.setTop (mkF m 214 #[.val (.long q1), .second, .val (.int p2), .val (.int (1 : Int32)), .val (.ref b1), .val (.int (1 : Int32)), .val (.int (1 : Int32)), .val (.int (1 : Int32)), .val (.int (4 : Int32))] [])) _
              refine XS.aload X118.here hx rfl (hb hby at_214) rfl rfl ?_
              show Steps p.tables e below (T118.setTop (mkF m 216 #[.val (.long q1), .second, .val (.int p2), .val (.int (1 : Int32)), .val (.ref b1), .val (.int (1 : Int32)), .val (.int (1 : Int32)), .val (.int (1 : Int32)), .val (.int (4 : Int32))] [(.ref b1)])) _
              refine XS.iloadN X118.here hx rfl (hb hby at_216) rfl ?_
              show Steps p.tables e below (T118.setTop (mkF m 217 #[.val (.long q1), .second, .val (.int p2), .val (.int (1 : Int32)), .val (.ref b1), .val (.int (1 : Int32)), .val (.int (1 : Int32)), .val (.int (1 : Int32)), .val (.int (4 : Int32))] [(.int (1 : Int32)), (.ref b1)])) _
              refine st121 _ ?_
              show Steps p.tables e below (T121.setTop (mkF m 220 #[.val (.long q1), .second, .val (.int p2), .val (.int (1 : Int32)), .val (.ref b1), .val (.int (1 : Int32)), .val (.int (1 : Int32)), .val (.int (1 : Int32)), .val (.int (4 : Int32))] [(.int (own_v1_f1 (nar .byte (own_b1 q1)) (nar .byte (own_b2 q1)) (nar .byte (own_b3 q1))))])) _
              refine XS.iload X121.here hx rfl (hb hby at_220) rfl ?_
              exact kt
            by_cases hc32 : (own_v1_f1 (nar .byte (own_b1 q1)) (nar .byte (own_b2 q1)) (nar .byte (own_b3 q1))) = (4 : Int32)
            ·
              obtain ⟨fs, hr, hrun, hended, hW, hsame⟩ := X121.leave (v := some (.int (1 : Int32))) (fun h => by rw [Bd.returns] at h; cases h)
              refine ⟨_, _, k123 _ ?_, hrun, hended, _, _, rfl, ?_, ⟨_, rfl⟩, hW, hsame.mono (by decide) (by decide)⟩
              · show Steps p.tables e below (T121.setTop (mkF m 222 #[.val (.long q1), .second, .val (.int p2), .val (.int (1 : Int32)), .val (.ref b1), .val (.int (1 : Int32)), .val (.int (1 : Int32)), .val (.int (1 : Int32)), .val (.int (4 : Int32))] [(.int (4 : Int32)), (.int (own_v1_f1 (nar .byte (own_b1 q1)) (nar .byte (own_b2 q1)) (nar .byte (own_b3 q1))))])) _
                refine XS.icmpNo X121.here hx rfl (hb hby at_222) rfl (teq hc32).2 ?_
                show Steps p.tables e below (T121.setTop (mkF m 225 #[.val (.long q1), .second, .val (.int p2), .val (.int (1 : Int32)), .val (.ref b1), .val (.int (1 : Int32)), .val (.int (1 : Int32)), .val (.int (1 : Int32)), .val (.int (4 : Int32))] [])) _
                refine XS.iconst X121.here hx rfl (hb hby at_225) ?_
                show Steps p.tables e below (T121.setTop (mkF m 226 #[.val (.long q1), .second, .val (.int p2), .val (.int (1 : Int32)), .val (.ref b1), .val (.int (1 : Int32)), .val (.int (1 : Int32)), .val (.int (1 : Int32)), .val (.int (4 : Int32))] [(.int (1 : Int32))])) _
                refine XS.goto X121.here hx rfl (pc0 := 226) (pc' := 230) rfl (hb hby at_226) (by decide) (by decide) ?_
                show Steps p.tables e below (T121.setTop (mkF m 230 #[.val (.long q1), .second, .val (.int p2), .val (.int (1 : Int32)), .val (.ref b1), .val (.int (1 : Int32)), .val (.int (1 : Int32)), .val (.int (1 : Int32)), .val (.int (4 : Int32))] [(.int (1 : Int32))])) _
                exact retN X121 hx (t := .boolean) Bd.returns (by simp) (hb hby at_230) hr
              · show own_Q0 Z q1 p2 h0 n0 _ T121.heap _
                rw [e121]
                exact ⟨(by rw [own_f0, if_neg hc1, if_pos hc17, if_neg hc18, if_neg hc26, if_neg hc30, if_pos hc32]), N122⟩
            ·
              obtain ⟨fs, hr, hrun, hended, hW, hsame⟩ := X121.leave (v := some (.int (0 : Int32))) (fun h => by rw [Bd.returns] at h; cases h)
              refine ⟨_, _, k123 _ ?_, hrun, hended, _, _, rfl, ?_, ⟨_, rfl⟩, hW, hsame.mono (by decide) (by decide)⟩
              · show Steps p.tables e below (T121.setTop (mkF m 222 #[.val (.long q1), .second, .val (.int p2), .val (.int (1 : Int32)), .val (.ref b1), .val (.int (1 : Int32)), .val (.int (1 : Int32)), .val (.int (1 : Int32)), .val (.int (4 : Int32))] [(.int (4 : Int32)), (.int (own_v1_f1 (nar .byte (own_b1 q1)) (nar .byte (own_b2 q1)) (nar .byte (own_b3 q1))))])) _
                refine XS.icmpYes X121.here hx rfl (pc0 := 222) (pc' := 229) rfl (hb hby at_222) rfl (feq hc32).2 (by decide) (by decide) ?_
                show Steps p.tables e below (T121.setTop (mkF m 229 #[.val (.long q1), .second, .val (.int p2), .val (.int (1 : Int32)), .val (.ref b1), .val (.int (1 : Int32)), .val (.int (1 : Int32)), .val (.int (1 : Int32)), .val (.int (4 : Int32))] [])) _
                refine XS.iconst X121.here hx rfl (hb hby at_229) ?_
                show Steps p.tables e below (T121.setTop (mkF m 230 #[.val (.long q1), .second, .val (.int p2), .val (.int (1 : Int32)), .val (.ref b1), .val (.int (1 : Int32)), .val (.int (1 : Int32)), .val (.int (1 : Int32)), .val (.int (4 : Int32))] [(.int (0 : Int32))])) _
                exact retN X121 hx (t := .boolean) Bd.returns (by simp) (hb hby at_230) hr
              · show own_Q0 Z q1 p2 h0 n0 _ T121.heap _
                rw [e121]
                exact ⟨(by rw [own_f0, if_neg hc1, if_pos hc17, if_neg hc18, if_neg hc26, if_neg hc30, if_neg hc32]), N122⟩
    ·
      by_cases hc33 : (p2 &&& (3 : Int32)) = (2 : Int32)
      ·
        have k124 : ∀ t, Steps p.tables e below (T32.setTop (mkF m 92 #[.val (.long q1), .second, .val (.int p2), .val (.int (2 : Int32)), .val (.ref b1), .unset, .unset, .unset, .unset] [(.int (2 : Int32)), (.ref b1)])) t → Steps p.tables e below (s₁.setTop (entryFrame m #[(.long q1), (.int p2)] maxLocals)) t := by
          intro t kt
          refine k35 t ?_
          rw [hc33]
          exact kt
        obtain ⟨cl125, Ar125, qk125, Sz125, Nn125, Hs125, Gf125⟩ := id V_b1_32
        have hin125 : ¬ ((2 : Int32) < 0 ∨ cl125.slots.size ≤ ((2 : Int32)).toNatClampNeg) := inb_of Sz125 ⟨by decide, by decide⟩
        have hat125 : cl125.slots[((2 : Int32)).toNatClampNeg]? = some (.int (nar .byte (own_b2 q1))) := Has.at Hs125 hin125 rfl
        have k126 : ∀ t, Steps p.tables e below (T32.setTop (mkF m 97 #[.val (.long q1), .second, .val (.int p2), .val (.int (2 : Int32)), .val (.ref b1), .unset, .unset, .unset, .unset] [(.int ((nar .byte (own_b2 q1)) &&& (128 : Int32)))])) t → Steps p.tables e below (s₁.setTop (entryFrame m #[(.long q1), (.int p2)] maxLocals)) t := by
          intro t kt
          refine k124 t ?_
          show Steps p.tables e below (T32.setTop (mkF m 92 #[.val (.long q1), .second, .val (.int p2), .val (.int (2 : Int32)), .val (.ref b1), .unset, .unset, .unset, .unset] [(.int (2 : Int32)), (.ref b1)])) _
          refine X32.baloadBytes hx (j := (2 : Int32)) (v := (.int (nar .byte (own_b2 q1)))) (by rw [e32]; exact Ar125.1) (State.isArrayOf_alike hZ.alike Ar125.2.1) Ar125.2.2 hin125 hat125 (g := (mkF m 92 #[.val (.long q1), .second, .val (.int p2), .val (.int (2 : Int32)), .val (.ref b1), .unset, .unset, .unset, .unset] [(.int (2 : Int32)), (.ref b1)])) rfl rfl (hb hby at_92) _ ?_
          show Steps p.tables e below (T32.setTop (mkF m 93 #[.val (.long q1), .second, .val (.int p2), .val (.int (2 : Int32)), .val (.ref b1), .unset, .unset, .unset, .unset] [(.int (nar .byte (own_b2 q1)))])) _
          refine XS.sipush X32.here hx rfl (hb hby at_93) ?_
          show Steps p.tables e below (T32.setTop (mkF m 96 #[.val (.long q1), .second, .val (.int p2), .val (.int (2 : Int32)), .val (.ref b1), .unset, .unset, .unset, .unset] [(.int (128 : Int32)), (.int (nar .byte (own_b2 q1)))])) _
          refine XS.iand X32.here hx rfl (hb hby at_96) rfl ?_
          exact kt
        by_cases hc34 : ((nar .byte (own_b2 q1)) &&& (128 : Int32)) = (0 : Int32)
        ·
          obtain ⟨cl127, Ar127, qk127, Sz127, Nn127, Hs127, Gf127⟩ := id V_b1_32
          have hin127 : ¬ ((3 : Int32) < 0 ∨ cl127.slots.size ≤ ((3 : Int32)).toNatClampNeg) := inb_of Sz127 ⟨by decide, by decide⟩
          have hat127 : cl127.slots[((3 : Int32)).toNatClampNeg]? = some (.int (nar .byte (own_b3 q1))) := Has.at Hs127 hin127 rfl
          have k128 : ∀ t, Steps p.tables e below (T32.setTop (mkF m 117 #[.val (.long q1), .second, .val (.int p2), .val (.int (2 : Int32)), .val (.ref b1), .val (.int (0 : Int32)), .unset, .unset, .unset] [(.int ((nar .byte (own_b3 q1)) &&& (128 : Int32)))])) t → Steps p.tables e below (s₁.setTop (entryFrame m #[(.long q1), (.int p2)] maxLocals)) t := by
            intro t kt
            refine k126 t ?_
            show Steps p.tables e below (T32.setTop (mkF m 97 #[.val (.long q1), .second, .val (.int p2), .val (.int (2 : Int32)), .val (.ref b1), .unset, .unset, .unset, .unset] [(.int ((nar .byte (own_b2 q1)) &&& (128 : Int32)))])) _
            refine XS.ifYes X32.here hx rfl (pc0 := 97) (pc' := 104) rfl (hb hby at_97) rfl ((if0 _ _).trans (teq hc34).1) (by decide) (by decide) ?_
            show Steps p.tables e below (T32.setTop (mkF m 104 #[.val (.long q1), .second, .val (.int p2), .val (.int (2 : Int32)), .val (.ref b1), .unset, .unset, .unset, .unset] [])) _
            refine XS.iconst X32.here hx rfl (hb hby at_104) ?_
            show Steps p.tables e below (T32.setTop (mkF m 105 #[.val (.long q1), .second, .val (.int p2), .val (.int (2 : Int32)), .val (.ref b1), .unset, .unset, .unset, .unset] [(.int (0 : Int32))])) _
            refine XS.istore X32.here hx rfl (hb hby at_105) rfl (l' := #[.val (.long q1), .second, .val (.int p2), .val (.int (2 : Int32)), .val (.ref b1), .val (.int (0 : Int32)), .unset, .unset, .unset]) rfl ?_
            show Steps p.tables e below (T32.setTop (mkF m 107 #[.val (.long q1), .second, .val (.int p2), .val (.int (2 : Int32)), .val (.ref b1), .val (.int (0 : Int32)), .unset, .unset, .unset] [])) _
            refine XS.aload X32.here hx rfl (hb hby at_107) rfl rfl ?_
            show Steps p.tables e below (T32.setTop (mkF m 109 #[.val (.long q1), .second, .val (.int p2), .val (.int (2 : Int32)), .val (.ref b1), .val (.int (0 : Int32)), .unset, .unset, .unset] [(.ref b1)])) _
            refine XS.iloadN X32.here hx rfl (hb hby at_109) rfl ?_
            show Steps p.tables e below (T32.setTop (mkF m 110 #[.val (.long q1), .second, .val (.int p2), .val (.int (2 : Int32)), .val (.ref b1), .val (.int (0 : Int32)), .unset, .unset, .unset] [(.int (2 : Int32)), (.ref b1)])) _
            refine XS.iconst X32.here hx rfl (hb hby at_110) ?_
            show Steps p.tables e below (T32.setTop (mkF m 111 #[.val (.long q1), .second, .val (.int p2), .val (.int (2 : Int32)), .val (.ref b1), .val (.int (0 : Int32)), .unset, .unset, .unset] [(.int (1 : Int32)), (.int (2 : Int32)), (.ref b1)])) _
            refine XS.iadd X32.here hx rfl (hb hby at_111) rfl ?_
            show Steps p.tables e below (T32.setTop (mkF m 112 #[.val (.long q1), .second, .val (.int p2), .val (.int (2 : Int32)), .val (.ref b1), .val (.int (0 : Int32)), .unset, .unset, .unset] [(.int (3 : Int32)), (.ref b1)])) _
            refine X32.baloadBytes hx (j := (3 : Int32)) (v := (.int (nar .byte (own_b3 q1)))) (by rw [e32]; exact Ar127.1) (State.isArrayOf_alike hZ.alike Ar127.2.1) Ar127.2.2 hin127 hat127 (g := (mkF m 112 #[.val (.long q1), .second, .val (.int p2), .val (.int (2 : Int32)), .val (.ref b1), .val (.int (0 : Int32)), .unset, .unset, .unset] [(.int (3 : Int32)), (.ref b1)])) rfl rfl (hb hby at_112) _ ?_
            show Steps p.tables e below (T32.setTop (mkF m 113 #[.val (.long q1), .second, .val (.int p2), .val (.int (2 : Int32)), .val (.ref b1), .val (.int (0 : Int32)), .unset, .unset, .unset] [(.int (nar .byte (own_b3 q1)))])) _
            refine XS.sipush X32.here hx rfl (hb hby at_113) ?_
            show Steps p.tables e below (T32.setTop (mkF m 116 #[.val (.long q1), .second, .val (.int p2), .val (.int (2 : Int32)), .val (.ref b1), .val (.int (0 : Int32)), .unset, .unset, .unset] [(.int (128 : Int32)), (.int (nar .byte (own_b3 q1)))])) _
            refine XS.iand X32.here hx rfl (hb hby at_116) rfl ?_
            exact kt
          by_cases hc35 : ((nar .byte (own_b3 q1)) &&& (128 : Int32)) = (0 : Int32)
          ·
            obtain ⟨cl129, Ar129, qk129, Sz129, Nn129, Hs129, Gf129⟩ := id V_b1_32
            have hin129 : ¬ ((4 : Int32) < 0 ∨ cl129.slots.size ≤ ((4 : Int32)).toNatClampNeg) := inb_of Sz129 ⟨by decide, by decide⟩
            have hat129 : cl129.slots[((4 : Int32)).toNatClampNeg]? = some (.int (nar .byte (own_b4 q1))) := Has.at Hs129 hin129 rfl
            have k130 : ∀ t, Steps p.tables e below (T32.setTop (mkF m 137 #[.val (.long q1), .second, .val (.int p2), .val (.int (2 : Int32)), .val (.ref b1), .val (.int (0 : Int32)), .val (.int (0 : Int32)), .unset, .unset] [(.int ((nar .byte (own_b4 q1)) &&& (128 : Int32)))])) t → Steps p.tables e below (s₁.setTop (entryFrame m #[(.long q1), (.int p2)] maxLocals)) t := by
              intro t kt
              refine k128 t ?_
              show Steps p.tables e below (T32.setTop (mkF m 117 #[.val (.long q1), .second, .val (.int p2), .val (.int (2 : Int32)), .val (.ref b1), .val (.int (0 : Int32)), .unset, .unset, .unset] [(.int ((nar .byte (own_b3 q1)) &&& (128 : Int32)))])) _
              refine XS.ifYes X32.here hx rfl (pc0 := 117) (pc' := 124) rfl (hb hby at_117) rfl ((if0 _ _).trans (teq hc35).1) (by decide) (by decide) ?_
              show Steps p.tables e below (T32.setTop (mkF m 124 #[.val (.long q1), .second, .val (.int p2), .val (.int (2 : Int32)), .val (.ref b1), .val (.int (0 : Int32)), .unset, .unset, .unset] [])) _
              refine XS.iconst X32.here hx rfl (hb hby at_124) ?_
              show Steps p.tables e below (T32.setTop (mkF m 125 #[.val (.long q1), .second, .val (.int p2), .val (.int (2 : Int32)), .val (.ref b1), .val (.int (0 : Int32)), .unset, .unset, .unset] [(.int (0 : Int32))])) _
              refine XS.istore X32.here hx rfl (hb hby at_125) rfl (l' := #[.val (.long q1), .second, .val (.int p2), .val (.int (2 : Int32)), .val (.ref b1), .val (.int (0 : Int32)), .val (.int (0 : Int32)), .unset, .unset]) rfl ?_
              show Steps p.tables e below (T32.setTop (mkF m 127 #[.val (.long q1), .second, .val (.int p2), .val (.int (2 : Int32)), .val (.ref b1), .val (.int (0 : Int32)), .val (.int (0 : Int32)), .unset, .unset] [])) _
              refine XS.aload X32.here hx rfl (hb hby at_127) rfl rfl ?_
              show Steps p.tables e below (T32.setTop (mkF m 129 #[.val (.long q1), .second, .val (.int p2), .val (.int (2 : Int32)), .val (.ref b1), .val (.int (0 : Int32)), .val (.int (0 : Int32)), .unset, .unset] [(.ref b1)])) _
              refine XS.iloadN X32.here hx rfl (hb hby at_129) rfl ?_
              show Steps p.tables e below (T32.setTop (mkF m 130 #[.val (.long q1), .second, .val (.int p2), .val (.int (2 : Int32)), .val (.ref b1), .val (.int (0 : Int32)), .val (.int (0 : Int32)), .unset, .unset] [(.int (2 : Int32)), (.ref b1)])) _
              refine XS.iconst X32.here hx rfl (hb hby at_130) ?_
              show Steps p.tables e below (T32.setTop (mkF m 131 #[.val (.long q1), .second, .val (.int p2), .val (.int (2 : Int32)), .val (.ref b1), .val (.int (0 : Int32)), .val (.int (0 : Int32)), .unset, .unset] [(.int (2 : Int32)), (.int (2 : Int32)), (.ref b1)])) _
              refine XS.iadd X32.here hx rfl (hb hby at_131) rfl ?_
              show Steps p.tables e below (T32.setTop (mkF m 132 #[.val (.long q1), .second, .val (.int p2), .val (.int (2 : Int32)), .val (.ref b1), .val (.int (0 : Int32)), .val (.int (0 : Int32)), .unset, .unset] [(.int (4 : Int32)), (.ref b1)])) _
              refine X32.baloadBytes hx (j := (4 : Int32)) (v := (.int (nar .byte (own_b4 q1)))) (by rw [e32]; exact Ar129.1) (State.isArrayOf_alike hZ.alike Ar129.2.1) Ar129.2.2 hin129 hat129 (g := (mkF m 132 #[.val (.long q1), .second, .val (.int p2), .val (.int (2 : Int32)), .val (.ref b1), .val (.int (0 : Int32)), .val (.int (0 : Int32)), .unset, .unset] [(.int (4 : Int32)), (.ref b1)])) rfl rfl (hb hby at_132) _ ?_
              show Steps p.tables e below (T32.setTop (mkF m 133 #[.val (.long q1), .second, .val (.int p2), .val (.int (2 : Int32)), .val (.ref b1), .val (.int (0 : Int32)), .val (.int (0 : Int32)), .unset, .unset] [(.int (nar .byte (own_b4 q1)))])) _
              refine XS.sipush X32.here hx rfl (hb hby at_133) ?_
              show Steps p.tables e below (T32.setTop (mkF m 136 #[.val (.long q1), .second, .val (.int p2), .val (.int (2 : Int32)), .val (.ref b1), .val (.int (0 : Int32)), .val (.int (0 : Int32)), .unset, .unset] [(.int (128 : Int32)), (.int (nar .byte (own_b4 q1)))])) _
              refine XS.iand X32.here hx rfl (hb hby at_136) rfl ?_
              exact kt
            by_cases hc36 : ((nar .byte (own_b4 q1)) &&& (128 : Int32)) = (0 : Int32)
            ·
              obtain ⟨v131, _, ⟨T131, L131, k131, n131⟩, -, X131, ⟨Lc131, hQ131, l131, y131, z131⟩, st131⟩ := Jvm.LawKit.callS X32 hx (y := (⟨"com/example/castd/castd/mqtt/VariableByteInteger", "length", "([BI)I"⟩ : MethodName)) hown (mvT hZ (hw _ (List.mem_of_getElem? (i := 1) rfl))) (mvT hZ (hw _ (List.mem_of_getElem? (i := 2) rfl))) (mvT hZ (hw _ (List.mem_of_getElem? (i := 3) rfl))) (mvT hZ (hw _ (List.mem_of_getElem? (i := 4) rfl))) (by decide) (backOf (W := 0) (own_v2_rm1 l Z a0 hw [] b1 k1 (nar .byte (own_b0 q1)) (nar .byte (own_b1 q1)) (nar .byte (own_b2 q1)) (nar .byte (own_b3 q1)) (nar .byte (own_b4 q1)) (nar .byte (own_b5 q1)) (nar .byte (own_b6 q1)) (nar .byte (own_b7 q1)) h32 n0 Z34 V_b1_32 (by intro h1 h2 h3; first | contradiction | exact own_clr _)) hZ (hw _ (List.mem_of_getElem? (i := 4) rfl)) (hw _ (List.mem_of_getElem? (i := 3) rfl)) (by decide) (by decide)) (g := (mkF m 217 #[.val (.long q1), .second, .val (.int p2), .val (.int (2 : Int32)), .val (.ref b1), .val (.int (0 : Int32)), .val (.int (0 : Int32)), .val (.int (0 : Int32)), .val (.int (1 : Int32))] [(.int (2 : Int32)), (.ref b1)])) rfl (by rw [hml]; rfl) (argsL := [(.ref b1), (.int (2 : Int32))]) (rest := []) (lenOf own_pd25 rfl) rfl (by show 2 * 0 + _ ≤ _; exact Nat.le_of_eq rfl) (hb hby at_217) (fun _ _ => ⟨rfl, e32, (by decide : 1 + 0 ≤ _), (by decide : 8 + 0 ≤ _)⟩)
              dsimp only [Pt.U, Pt.locs, Pt.cells, Pt.slots] at X131 l131 y131 z131 st131 hQ131
              subst l131 y131 z131
              obtain ⟨rfl, N131q, e131⟩ := hQ131
              have N132 := Fr.app N33 N131q
              have k133 : ∀ t, Steps p.tables e below (T131.setTop (mkF m 222 #[.val (.long q1), .second, .val (.int p2), .val (.int (2 : Int32)), .val (.ref b1), .val (.int (0 : Int32)), .val (.int (0 : Int32)), .val (.int (0 : Int32)), .val (.int (1 : Int32))] [(.int (1 : Int32)), (.int (own_v2_f1 (nar .byte (own_b2 q1)) (nar .byte (own_b3 q1)) (nar .byte (own_b4 q1))))])) t → Steps p.tables e below (s₁.setTop (entryFrame m #[(.long q1), (.int p2)] maxLocals)) t := by
                intro t kt
                refine k130 t ?_
                show Steps p.tables e below (T32.setTop (mkF m 137 #[.val (.long q1), .second, .val (.int p2), .val (.int (2 : Int32)), .val (.ref b1), .val (.int (0 : Int32)), .val (.int (0 : Int32)), .unset, .unset] [(.int ((nar .byte (own_b4 q1)) &&& (128 : Int32)))])) _
                refine XS.ifYes X32.here hx rfl (pc0 := 137) (pc' := 144) rfl (hb hby at_137) rfl ((if0 _ _).trans (teq hc36).1) (by decide) (by decide) ?_
                show Steps p.tables e below (T32.setTop (mkF m 144 #[.val (.long q1), .second, .val (.int p2), .val (.int (2 : Int32)), .val (.ref b1), .val (.int (0 : Int32)), .val (.int (0 : Int32)), .unset, .unset] [])) _
                refine XS.iconst X32.here hx rfl (hb hby at_144) ?_
                show Steps p.tables e below (T32.setTop (mkF m 145 #[.val (.long q1), .second, .val (.int p2), .val (.int (2 : Int32)), .val (.ref b1), .val (.int (0 : Int32)), .val (.int (0 : Int32)), .unset, .unset] [(.int (0 : Int32))])) _
                refine XS.istore X32.here hx rfl (hb hby at_145) rfl (l' := #[.val (.long q1), .second, .val (.int p2), .val (.int (2 : Int32)), .val (.ref b1), .val (.int (0 : Int32)), .val (.int (0 : Int32)), .val (.int (0 : Int32)), .unset]) rfl ?_
                show Steps p.tables e below (T32.setTop (mkF m 147 #[.val (.long q1), .second, .val (.int p2), .val (.int (2 : Int32)), .val (.ref b1), .val (.int (0 : Int32)), .val (.int (0 : Int32)), .val (.int (0 : Int32)), .unset] [])) _
                refine XS.iload X32.here hx rfl (hb hby at_147) rfl ?_
                show Steps p.tables e below (T32.setTop (mkF m 149 #[.val (.long q1), .second, .val (.int p2), .val (.int (2 : Int32)), .val (.ref b1), .val (.int (0 : Int32)), .val (.int (0 : Int32)), .val (.int (0 : Int32)), .unset] [(.int (0 : Int32))])) _
                refine XS.ifYes X32.here hx rfl (pc0 := 149) (pc' := 178) rfl (hb hby at_149) rfl ((if0 _ _).trans (teq (by decide : (0 : Int32) = (0 : Int32))).1) (by decide) (by decide) ?_
                show Steps p.tables e below (T32.setTop (mkF m 178 #[.val (.long q1), .second, .val (.int p2), .val (.int (2 : Int32)), .val (.ref b1), .val (.int (0 : Int32)), .val (.int (0 : Int32)), .val (.int (0 : Int32)), .unset] [])) _
                refine XS.iload X32.here hx rfl (hb hby at_178) rfl ?_
                show Steps p.tables e below (T32.setTop (mkF m 180 #[.val (.long q1), .second, .val (.int p2), .val (.int (2 : Int32)), .val (.ref b1), .val (.int (0 : Int32)), .val (.int (0 : Int32)), .val (.int (0 : Int32)), .unset] [(.int (0 : Int32))])) _
                refine XS.ifNo X32.here hx rfl (hb hby at_180) rfl ((if0 _ _).trans (teq (by decide : (0 : Int32) = (0 : Int32))).2) ?_
                show Steps p.tables e below (T32.setTop (mkF m 183 #[.val (.long q1), .second, .val (.int p2), .val (.int (2 : Int32)), .val (.ref b1), .val (.int (0 : Int32)), .val (.int (0 : Int32)), .val (.int (0 : Int32)), .unset] [])) _
                refine XS.iconst X32.here hx rfl (hb hby at_183) ?_
                show Steps p.tables e below (T32.setTop (mkF m 184 #[.val (.long q1), .second, .val (.int p2), .val (.int (2 : Int32)), .val (.ref b1), .val (.int (0 : Int32)), .val (.int (0 : Int32)), .val (.int (0 : Int32)), .unset] [(.int (1 : Int32))])) _
                refine XS.istore X32.here hx rfl (hb hby at_184) rfl (l' := #[.val (.long q1), .second, .val (.int p2), .val (.int (2 : Int32)), .val (.ref b1), .val (.int (0 : Int32)), .val (.int (0 : Int32)), .val (.int (0 : Int32)), .val (.int (1 : Int32))]) rfl ?_
                show Steps p.tables e below (T32.setTop (mkF m 186 #[.val (.long q1), .second, .val (.int p2), .val (.int (2 : Int32)), .val (.ref b1), .val (.int (0 : Int32)), .val (.int (0 : Int32)), .val (.int (0 : Int32)), .val (.int (1 : Int32))] [])) _
                refine XS.goto X32.here hx rfl (pc0 := 186) (pc' := 214) rfl (hb hby at_186) (by decide) (by decide) ?_
                show Steps p.tables e below (T32.setTop (mkF m 214 #[.val (.long q1), .second, .val (.int p2), .val (.int (2 : Int32)), .val (.ref b1), .val (.int (0 : Int32)), .val (.int (0 : Int32)), .val (.int (0 : Int32)), .val (.int (1 : Int32))] [])) _
                refine XS.aload X32.here hx rfl (hb hby at_214) rfl rfl ?_
                show Steps p.tables e below (T32.setTop (mkF m 216 #[.val (.long q1), .second, .val (.int p2), .val (.int (2 : Int32)), .val (.ref b1), .val (.int (0 : Int32)), .val (.int (0 : Int32)), .val (.int (0 : Int32)), .val (.int (1 : Int32))] [(.ref b1)])) _
                refine XS.iloadN X32.here hx rfl (hb hby at_216) rfl ?_
                show Steps p.tables e below (T32.setTop (mkF m 217 #[.val (.long q1), .second, .val (.int p2), .val (.int (2 : Int32)), .val (.ref b1), .val (.int (0 : Int32)), .val (.int (0 : Int32)), .val (.int (0 : Int32)), .val (.int (1 : Int32))] [(.int (2 : Int32)), (.ref b1)])) _
                refine st131 _ ?_
                show Steps p.tables e below (T131.setTop (mkF m 220 #[.val (.long q1), .second, .val (.int p2), .val (.int (2 : Int32)), .val (.ref b1), .val (.int (0 : Int32)), .val (.int (0 : Int32)), .val (.int (0 : Int32)), .val (.int (1 : Int32))] [(.int (own_v2_f1 (nar .byte (own_b2 q1)) (nar .byte (own_b3 q1)) (nar .byte (own_b4 q1))))])) _
                refine XS.iload X131.here hx rfl (hb hby at_220) rfl ?_
                exact kt
              by_cases hc37 : (own_v2_f1 (nar .byte (own_b2 q1)) (nar .byte (own_b3 q1)) (nar .byte (own_b4 q1))) = (1 : Int32)
              ·
                obtain ⟨fs, hr, hrun, hended, hW, hsame⟩ := X131.leave (v := some (.int (1 : Int32))) (fun h => by rw [Bd.returns] at h; cases h)
                refine ⟨_, _, k133 _ ?_, hrun, hended, _, _, rfl, ?_, ⟨_, rfl⟩, hW, hsame.mono (by decide) (by decide)⟩
                · show Steps p.tables e below (T131.setTop (mkF m 222 #[.val (.long q1), .second, .val (.int p2), .val (.int (2 : Int32)), .val (.ref b1), .val (.int (0 : Int32)), .val (.int (0 : Int32)), .val (.int (0 : Int32)), .val (.int (1 : Int32))] [(.int (1 : Int32)), (.int (own_v2_f1 (nar .byte (own_b2 q1)) (nar .byte (own_b3 q1)) (nar .byte (own_b4 q1))))])) _
                  refine XS.icmpNo X131.here hx rfl (hb hby at_222) rfl (teq hc37).2 ?_
                  show Steps p.tables e below (T131.setTop (mkF m 225 #[.val (.long q1), .second, .val (.int p2), .val (.int (2 : Int32)), .val (.ref b1), .val (.int (0 : Int32)), .val (.int (0 : Int32)), .val (.int (0 : Int32)), .val (.int (1 : Int32))] [])) _
                  refine XS.iconst X131.here hx rfl (hb hby at_225) ?_
                  show Steps p.tables e below (T131.setTop (mkF m 226 #[.val (.long q1), .second, .val (.int p2), .val (.int (2 : Int32)), .val (.ref b1), .val (.int (0 : Int32)), .val (.int (0 : Int32)), .val (.int (0 : Int32)), .val (.int (1 : Int32))] [(.int (1 : Int32))])) _
                  refine XS.goto X131.here hx rfl (pc0 := 226) (pc' := 230) rfl (hb hby at_226) (by decide) (by decide) ?_
                  show Steps p.tables e below (T131.setTop (mkF m 230 #[.val (.long q1), .second, .val (.int p2), .val (.int (2 : Int32)), .val (.ref b1), .val (.int (0 : Int32)), .val (.int (0 : Int32)), .val (.int (0 : Int32)), .val (.int (1 : Int32))] [(.int (1 : Int32))])) _
                  exact retN X131 hx (t := .boolean) Bd.returns (by simp) (hb hby at_230) hr
                · show own_Q0 Z q1 p2 h0 n0 _ T131.heap _
                  rw [e131]
                  exact ⟨(by rw [own_f0, if_neg hc1, if_neg hc17, if_pos hc33, if_pos hc34, if_pos hc35, if_pos hc36, if_pos hc37]), N132⟩
              ·
                obtain ⟨fs, hr, hrun, hended, hW, hsame⟩ := X131.leave (v := some (.int (0 : Int32))) (fun h => by rw [Bd.returns] at h; cases h)
                refine ⟨_, _, k133 _ ?_, hrun, hended, _, _, rfl, ?_, ⟨_, rfl⟩, hW, hsame.mono (by decide) (by decide)⟩
                · show Steps p.tables e below (T131.setTop (mkF m 222 #[.val (.long q1), .second, .val (.int p2), .val (.int (2 : Int32)), .val (.ref b1), .val (.int (0 : Int32)), .val (.int (0 : Int32)), .val (.int (0 : Int32)), .val (.int (1 : Int32))] [(.int (1 : Int32)), (.int (own_v2_f1 (nar .byte (own_b2 q1)) (nar .byte (own_b3 q1)) (nar .byte (own_b4 q1))))])) _
                  refine XS.icmpYes X131.here hx rfl (pc0 := 222) (pc' := 229) rfl (hb hby at_222) rfl (feq hc37).2 (by decide) (by decide) ?_
                  show Steps p.tables e below (T131.setTop (mkF m 229 #[.val (.long q1), .second, .val (.int p2), .val (.int (2 : Int32)), .val (.ref b1), .val (.int (0 : Int32)), .val (.int (0 : Int32)), .val (.int (0 : Int32)), .val (.int (1 : Int32))] [])) _
                  refine XS.iconst X131.here hx rfl (hb hby at_229) ?_
                  show Steps p.tables e below (T131.setTop (mkF m 230 #[.val (.long q1), .second, .val (.int p2), .val (.int (2 : Int32)), .val (.ref b1), .val (.int (0 : Int32)), .val (.int (0 : Int32)), .val (.int (0 : Int32)), .val (.int (1 : Int32))] [(.int (0 : Int32))])) _
                  exact retN X131 hx (t := .boolean) Bd.returns (by simp) (hb hby at_230) hr
                · show own_Q0 Z q1 p2 h0 n0 _ T131.heap _
                  rw [e131]
                  exact ⟨(by rw [own_f0, if_neg hc1, if_neg hc17, if_pos hc33, if_pos hc34, if_pos hc35, if_pos hc36, if_neg hc37]), N132⟩
            ·
              obtain ⟨v134, _, ⟨T134, L134, k134, n134⟩, -, X134, ⟨Lc134, hQ134, l134, y134, z134⟩, st134⟩ := Jvm.LawKit.callS X32 hx (y := (⟨"com/example/castd/castd/mqtt/VariableByteInteger", "length", "([BI)I"⟩ : MethodName)) hown (mvT hZ (hw _ (List.mem_of_getElem? (i := 1) rfl))) (mvT hZ (hw _ (List.mem_of_getElem? (i := 2) rfl))) (mvT hZ (hw _ (List.mem_of_getElem? (i := 3) rfl))) (mvT hZ (hw _ (List.mem_of_getElem? (i := 4) rfl))) (by decide) (backOf (W := 0) (own_v2_rm1 l Z a0 hw [] b1 k1 (nar .byte (own_b0 q1)) (nar .byte (own_b1 q1)) (nar .byte (own_b2 q1)) (nar .byte (own_b3 q1)) (nar .byte (own_b4 q1)) (nar .byte (own_b5 q1)) (nar .byte (own_b6 q1)) (nar .byte (own_b7 q1)) h32 n0 Z34 V_b1_32 (by intro h1 h2 h3; first | contradiction | exact own_clr _)) hZ (hw _ (List.mem_of_getElem? (i := 4) rfl)) (hw _ (List.mem_of_getElem? (i := 3) rfl)) (by decide) (by decide)) (g := (mkF m 217 #[.val (.long q1), .second, .val (.int p2), .val (.int (2 : Int32)), .val (.ref b1), .val (.int (0 : Int32)), .val (.int (0 : Int32)), .val (.int (1 : Int32)), .val (.int (1 : Int32))] [(.int (2 : Int32)), (.ref b1)])) rfl (by rw [hml]; rfl) (argsL := [(.ref b1), (.int (2 : Int32))]) (rest := []) (lenOf own_pd25 rfl) rfl (by show 2 * 0 + _ ≤ _; exact Nat.le_of_eq rfl) (hb hby at_217) (fun _ _ => ⟨rfl, e32, (by decide : 1 + 0 ≤ _), (by decide : 8 + 0 ≤ _)⟩)
              dsimp only [Pt.U, Pt.locs, Pt.cells, Pt.slots] at X134 l134 y134 z134 st134 hQ134
              subst l134 y134 z134
              obtain ⟨rfl, N134q, e134⟩ := hQ134
              have N135 := Fr.app N33 N134q
              have k136 : ∀ t, Steps p.tables e below (T134.setTop (mkF m 222 #[.val (.long q1), .second, .val (.int p2), .val (.int (2 : Int32)), .val (.ref b1), .val (.int (0 : Int32)), .val (.int (0 : Int32)), .val (.int (1 : Int32)), .val (.int (1 : Int32))] [(.int (1 : Int32)), (.int (own_v2_f1 (nar .byte (own_b2 q1)) (nar .byte (own_b3 q1)) (nar .byte (own_b4 q1))))])) t → Steps p.tables e below (s₁.setTop (entryFrame m #[(.long q1), (.int p2)] maxLocals)) t := by
                intro t kt
                refine k130 t ?_
                show Steps p.tables e below (T32.setTop (mkF m 137 #[.val (.long q1), .second, .val (.int p2), .val (.int (2 : Int32)), .val (.ref b1), .val (.int (0 : Int32)), .val (.int (0 : Int32)), .unset, .unset] [(.int ((nar .byte (own_b4 q1)) &&& (128 : Int32)))])) _
                refine XS.ifNo X32.here hx rfl (hb hby at_137) rfl ((if0 _ _).trans (feq hc36).1) ?_
                show Steps p.tables e below (T32.setTop (mkF m 140 #[.val (.long q1), .second, .val (.int p2), .val (.int (2 : Int32)), .val (.ref b1), .val (.int (0 : Int32)), .val (.int (0 : Int32)), .unset, .unset] [])) _
                refine XS.iconst X32.here hx rfl (hb hby at_140) ?_
                show Steps p.tables e below (T32.setTop (mkF m 141 #[.val (.long q1), .second, .val (.int p2), .val (.int (2 : Int32)), .val (.ref b1), .val (.int (0 : Int32)), .val (.int (0 : Int32)), .unset, .unset] [(.int (1 : Int32))])) _
                refine XS.goto X32.here hx rfl (pc0 := 141) (pc' := 145) rfl (hb hby at_141) (by decide) (by decide) ?_
                show Steps p.tables e below (T32.setTop (mkF m 145 #[.val (.long q1), .second, .val (.int p2), .val (.int (2 : Int32)), .val (.ref b1), .val (.int (0 : Int32)), .val (.int (0 : Int32)), .unset, .unset] [(.int (1 : Int32))])) _
                refine XS.istore X32.here hx rfl (hb hby at_145) rfl (l' := #[.val (.long q1), .second, .val (.int p2), .val (.int (2 : Int32)), .val (.ref b1), .val (.int (0 : Int32)), .val (.int (0 : Int32)), .val (.int (1 : Int32)), .unset]) rfl ?_
                show Steps p.tables e below (T32.setTop (mkF m 147 #[.val (.long q1), .second, .val (.int p2), .val (.int (2 : Int32)), .val (.ref b1), .val (.int (0 : Int32)), .val (.int (0 : Int32)), .val (.int (1 : Int32)), .unset] [])) _
                refine XS.iload X32.here hx rfl (hb hby at_147) rfl ?_
                show Steps p.tables e below (T32.setTop (mkF m 149 #[.val (.long q1), .second, .val (.int p2), .val (.int (2 : Int32)), .val (.ref b1), .val (.int (0 : Int32)), .val (.int (0 : Int32)), .val (.int (1 : Int32)), .unset] [(.int (0 : Int32))])) _
                refine XS.ifYes X32.here hx rfl (pc0 := 149) (pc' := 178) rfl (hb hby at_149) rfl ((if0 _ _).trans (teq (by decide : (0 : Int32) = (0 : Int32))).1) (by decide) (by decide) ?_
                show Steps p.tables e below (T32.setTop (mkF m 178 #[.val (.long q1), .second, .val (.int p2), .val (.int (2 : Int32)), .val (.ref b1), .val (.int (0 : Int32)), .val (.int (0 : Int32)), .val (.int (1 : Int32)), .unset] [])) _
                refine XS.iload X32.here hx rfl (hb hby at_178) rfl ?_
                show Steps p.tables e below (T32.setTop (mkF m 180 #[.val (.long q1), .second, .val (.int p2), .val (.int (2 : Int32)), .val (.ref b1), .val (.int (0 : Int32)), .val (.int (0 : Int32)), .val (.int (1 : Int32)), .unset] [(.int (0 : Int32))])) _
                refine XS.ifNo X32.here hx rfl (hb hby at_180) rfl ((if0 _ _).trans (teq (by decide : (0 : Int32) = (0 : Int32))).2) ?_
                show Steps p.tables e below (T32.setTop (mkF m 183 #[.val (.long q1), .second, .val (.int p2), .val (.int (2 : Int32)), .val (.ref b1), .val (.int (0 : Int32)), .val (.int (0 : Int32)), .val (.int (1 : Int32)), .unset] [])) _
                refine XS.iconst X32.here hx rfl (hb hby at_183) ?_
                show Steps p.tables e below (T32.setTop (mkF m 184 #[.val (.long q1), .second, .val (.int p2), .val (.int (2 : Int32)), .val (.ref b1), .val (.int (0 : Int32)), .val (.int (0 : Int32)), .val (.int (1 : Int32)), .unset] [(.int (1 : Int32))])) _
                refine XS.istore X32.here hx rfl (hb hby at_184) rfl (l' := #[.val (.long q1), .second, .val (.int p2), .val (.int (2 : Int32)), .val (.ref b1), .val (.int (0 : Int32)), .val (.int (0 : Int32)), .val (.int (1 : Int32)), .val (.int (1 : Int32))]) rfl ?_
                show Steps p.tables e below (T32.setTop (mkF m 186 #[.val (.long q1), .second, .val (.int p2), .val (.int (2 : Int32)), .val (.ref b1), .val (.int (0 : Int32)), .val (.int (0 : Int32)), .val (.int (1 : Int32)), .val (.int (1 : Int32))] [])) _
                refine XS.goto X32.here hx rfl (pc0 := 186) (pc' := 214) rfl (hb hby at_186) (by decide) (by decide) ?_
                show Steps p.tables e below (T32.setTop (mkF m 214 #[.val (.long q1), .second, .val (.int p2), .val (.int (2 : Int32)), .val (.ref b1), .val (.int (0 : Int32)), .val (.int (0 : Int32)), .val (.int (1 : Int32)), .val (.int (1 : Int32))] [])) _
                refine XS.aload X32.here hx rfl (hb hby at_214) rfl rfl ?_
                show Steps p.tables e below (T32.setTop (mkF m 216 #[.val (.long q1), .second, .val (.int p2), .val (.int (2 : Int32)), .val (.ref b1), .val (.int (0 : Int32)), .val (.int (0 : Int32)), .val (.int (1 : Int32)), .val (.int (1 : Int32))] [(.ref b1)])) _
                refine XS.iloadN X32.here hx rfl (hb hby at_216) rfl ?_
                show Steps p.tables e below (T32.setTop (mkF m 217 #[.val (.long q1), .second, .val (.int p2), .val (.int (2 : Int32)), .val (.ref b1), .val (.int (0 : Int32)), .val (.int (0 : Int32)), .val (.int (1 : Int32)), .val (.int (1 : Int32))] [(.int (2 : Int32)), (.ref b1)])) _
                refine st134 _ ?_
                show Steps p.tables e below (T134.setTop (mkF m 220 #[.val (.long q1), .second, .val (.int p2), .val (.int (2 : Int32)), .val (.ref b1), .val (.int (0 : Int32)), .val (.int (0 : Int32)), .val (.int (1 : Int32)), .val (.int (1 : Int32))] [(.int (own_v2_f1 (nar .byte (own_b2 q1)) (nar .byte (own_b3 q1)) (nar .byte (own_b4 q1))))])) _
                refine XS.iload X134.here hx rfl (hb hby at_220) rfl ?_
                exact kt
              by_cases hc38 : (own_v2_f1 (nar .byte (own_b2 q1)) (nar .byte (own_b3 q1)) (nar .byte (own_b4 q1))) = (1 : Int32)
              ·
                obtain ⟨fs, hr, hrun, hended, hW, hsame⟩ := X134.leave (v := some (.int (1 : Int32))) (fun h => by rw [Bd.returns] at h; cases h)
                refine ⟨_, _, k136 _ ?_, hrun, hended, _, _, rfl, ?_, ⟨_, rfl⟩, hW, hsame.mono (by decide) (by decide)⟩
                · show Steps p.tables e below (T134.setTop (mkF m 222 #[.val (.long q1), .second, .val (.int p2), .val (.int (2 : Int32)), .val (.ref b1), .val (.int (0 : Int32)), .val (.int (0 : Int32)), .val (.int (1 : Int32)), .val (.int (1 : Int32))] [(.int (1 : Int32)), (.int (own_v2_f1 (nar .byte (own_b2 q1)) (nar .byte (own_b3 q1)) (nar .byte (own_b4 q1))))])) _
                  refine XS.icmpNo X134.here hx rfl (hb hby at_222) rfl (teq hc38).2 ?_
                  show Steps p.tables e below (T134.setTop (mkF m 225 #[.val (.long q1), .second, .val (.int p2), .val (.int (2 : Int32)), .val (.ref b1), .val (.int (0 : Int32)), .val (.int (0 : Int32)), .val (.int (1 : Int32)), .val (.int (1 : Int32))] [])) _
                  refine XS.iconst X134.here hx rfl (hb hby at_225) ?_
                  show Steps p.tables e below (T134.setTop (mkF m 226 #[.val (.long q1), .second, .val (.int p2), .val (.int (2 : Int32)), .val (.ref b1), .val (.int (0 : Int32)), .val (.int (0 : Int32)), .val (.int (1 : Int32)), .val (.int (1 : Int32))] [(.int (1 : Int32))])) _
                  refine XS.goto X134.here hx rfl (pc0 := 226) (pc' := 230) rfl (hb hby at_226) (by decide) (by decide) ?_
                  show Steps p.tables e below (T134.setTop (mkF m 230 #[.val (.long q1), .second, .val (.int p2), .val (.int (2 : Int32)), .val (.ref b1), .val (.int (0 : Int32)), .val (.int (0 : Int32)), .val (.int (1 : Int32)), .val (.int (1 : Int32))] [(.int (1 : Int32))])) _
                  exact retN X134 hx (t := .boolean) Bd.returns (by simp) (hb hby at_230) hr
                · show own_Q0 Z q1 p2 h0 n0 _ T134.heap _
                  rw [e134]
                  exact ⟨(by rw [own_f0, if_neg hc1, if_neg hc17, if_pos hc33, if_pos hc34, if_pos hc35, if_neg hc36, if_pos hc38]), N135⟩
              ·
                obtain ⟨fs, hr, hrun, hended, hW, hsame⟩ := X134.leave (v := some (.int (0 : Int32))) (fun h => by rw [Bd.returns] at h; cases h)
                refine ⟨_, _, k136 _ ?_, hrun, hended, _, _, rfl, ?_, ⟨_, rfl⟩, hW, hsame.mono (by decide) (by decide)⟩
                · show Steps p.tables e below (T134.setTop (mkF m 222 #[.val (.long q1), .second, .val (.int p2), .val (.int (2 : Int32)), .val (.ref b1), .val (.int (0 : Int32)), .val (.int (0 : Int32)), .val (.int (1 : Int32)), .val (.int (1 : Int32))] [(.int (1 : Int32)), (.int (own_v2_f1 (nar .byte (own_b2 q1)) (nar .byte (own_b3 q1)) (nar .byte (own_b4 q1))))])) _
                  refine XS.icmpYes X134.here hx rfl (pc0 := 222) (pc' := 229) rfl (hb hby at_222) rfl (feq hc38).2 (by decide) (by decide) ?_
                  show Steps p.tables e below (T134.setTop (mkF m 229 #[.val (.long q1), .second, .val (.int p2), .val (.int (2 : Int32)), .val (.ref b1), .val (.int (0 : Int32)), .val (.int (0 : Int32)), .val (.int (1 : Int32)), .val (.int (1 : Int32))] [])) _
                  refine XS.iconst X134.here hx rfl (hb hby at_229) ?_
                  show Steps p.tables e below (T134.setTop (mkF m 230 #[.val (.long q1), .second, .val (.int p2), .val (.int (2 : Int32)), .val (.ref b1), .val (.int (0 : Int32)), .val (.int (0 : Int32)), .val (.int (1 : Int32)), .val (.int (1 : Int32))] [(.int (0 : Int32))])) _
                  exact retN X134 hx (t := .boolean) Bd.returns (by simp) (hb hby at_230) hr
                · show own_Q0 Z q1 p2 h0 n0 _ T134.heap _
                  rw [e134]
                  exact ⟨(by rw [own_f0, if_neg hc1, if_neg hc17, if_pos hc33, if_pos hc34, if_pos hc35, if_neg hc36, if_neg hc38]), N135⟩
          ·
            obtain ⟨cl137, Ar137, qk137, Sz137, Nn137, Hs137, Gf137⟩ := id V_b1_32
            have hin137 : ¬ ((4 : Int32) < 0 ∨ cl137.slots.size ≤ ((4 : Int32)).toNatClampNeg) := inb_of Sz137 ⟨by decide, by decide⟩
            have hat137 : cl137.slots[((4 : Int32)).toNatClampNeg]? = some (.int (nar .byte (own_b4 q1))) := Has.at Hs137 hin137 rfl
            have k138 : ∀ t, Steps p.tables e below (T32.setTop (mkF m 137 #[.val (.long q1), .second, .val (.int p2), .val (.int (2 : Int32)), .val (.ref b1), .val (.int (0 : Int32)), .val (.int (1 : Int32)), .unset, .unset] [(.int ((nar .byte (own_b4 q1)) &&& (128 : Int32)))])) t → Steps p.tables e below (s₁.setTop (entryFrame m #[(.long q1), (.int p2)] maxLocals)) t := by
              intro t kt
              refine k128 t ?_
              show Steps p.tables e below (T32.setTop (mkF m 117 #[.val (.long q1), .second, .val (.int p2), .val (.int (2 : Int32)), .val (.ref b1), .val (.int (0 : Int32)), .unset, .unset, .unset] [(.int ((nar .byte (own_b3 q1)) &&& (128 : Int32)))])) _
              refine XS.ifNo X32.here hx rfl (hb hby at_117) rfl ((if0 _ _).trans (feq hc35).1) ?_
              show Steps p.tables e below (T32.setTop (mkF m 120 #[.val (.long q1), .second, .val (.int p2), .val (.int (2 : Int32)), .val (.ref b1), .val (.int (0 : Int32)), .unset, .unset, .unset] [])) _
              refine XS.iconst X32.here hx rfl (hb hby at_120) ?_
              show Steps p.tables e below (T32.setTop (mkF m 121 #[.val (.long q1), .second, .val (.int p2), .val (.int (2 : Int32)), .val (.ref b1), .val (.int (0 : Int32)), .unset, .unset, .unset] [(.int (1 : Int32))])) _
              refine XS.goto X32.here hx rfl (pc0 := 121) (pc' := 125) rfl (hb hby at_121) (by decide) (by decide) ?_
              show Steps p.tables e below (T32.setTop (mkF m 125 #[.val (.long q1), .second, .val (.int p2), .val (.int (2 : Int32)), .val (.ref b1), .val (.int (0 : Int32)), .unset, .unset, .unset] [(.int (1 : Int32))])) _
              refine XS.istore X32.here hx rfl (hb hby at_125) rfl (l' := #[.val (.long q1), .second, .val (.int p2), .val (.int (2 : Int32)), .val (.ref b1), .val (.int (0 : Int32)), .val (.int (1 : Int32)), .unset, .unset]) rfl ?_
              show Steps p.tables e below (T32.setTop (mkF m 127 #[.val (.long q1), .second, .val (.int p2), .val (.int (2 : Int32)), .val (.ref b1), .val (.int (0 : Int32)), .val (.int (1 : Int32)), .unset, .unset] [])) _
              refine XS.aload X32.here hx rfl (hb hby at_127) rfl rfl ?_
              show Steps p.tables e below (T32.setTop (mkF m 129 #[.val (.long q1), .second, .val (.int p2), .val (.int (2 : Int32)), .val (.ref b1), .val (.int (0 : Int32)), .val (.int (1 : Int32)), .unset, .unset] [(.ref b1)])) _
              refine XS.iloadN X32.here hx rfl (hb hby at_129) rfl ?_
              show Steps p.tables e below (T32.setTop (mkF m 130 #[.val (.long q1), .second, .val (.int p2), .val (.int (2 : Int32)), .val (.ref b1), .val (.int (0 : Int32)), .val (.int (1 : Int32)), .unset, .unset] [(.int (2 : Int32)), (.ref b1)])) _
              refine XS.iconst X32.here hx rfl (hb hby at_130) ?_
              show Steps p.tables e below (T32.setTop (mkF m 131 #[.val (.long q1), .second, .val (.int p2), .val (.int (2 : Int32)), .val (.ref b1), .val (.int (0 : Int32)), .val (.int (1 : Int32)), .unset, .unset] [(.int (2 : Int32)), (.int (2 : Int32)), (.ref b1)])) _
              refine XS.iadd X32.here hx rfl (hb hby at_131) rfl ?_
              show Steps p.tables e below (T32.setTop (mkF m 132 #[.val (.long q1), .second, .val (.int p2), .val (.int (2 : Int32)), .val (.ref b1), .val (.int (0 : Int32)), .val (.int (1 : Int32)), .unset, .unset] [(.int (4 : Int32)), (.ref b1)])) _
              refine X32.baloadBytes hx (j := (4 : Int32)) (v := (.int (nar .byte (own_b4 q1)))) (by rw [e32]; exact Ar137.1) (State.isArrayOf_alike hZ.alike Ar137.2.1) Ar137.2.2 hin137 hat137 (g := (mkF m 132 #[.val (.long q1), .second, .val (.int p2), .val (.int (2 : Int32)), .val (.ref b1), .val (.int (0 : Int32)), .val (.int (1 : Int32)), .unset, .unset] [(.int (4 : Int32)), (.ref b1)])) rfl rfl (hb hby at_132) _ ?_
              show Steps p.tables e below (T32.setTop (mkF m 133 #[.val (.long q1), .second, .val (.int p2), .val (.int (2 : Int32)), .val (.ref b1), .val (.int (0 : Int32)), .val (.int (1 : Int32)), .unset, .unset] [(.int (nar .byte (own_b4 q1)))])) _
              refine XS.sipush X32.here hx rfl (hb hby at_133) ?_
              show Steps p.tables e below (T32.setTop (mkF m 136 #[.val (.long q1), .second, .val (.int p2), .val (.int (2 : Int32)), .val (.ref b1), .val (.int (0 : Int32)), .val (.int (1 : Int32)), .unset, .unset] [(.int (128 : Int32)), (.int (nar .byte (own_b4 q1)))])) _
              refine XS.iand X32.here hx rfl (hb hby at_136) rfl ?_
              exact kt
            by_cases hc39 : ((nar .byte (own_b4 q1)) &&& (128 : Int32)) = (0 : Int32)
            ·
              obtain ⟨v139, _, ⟨T139, L139, k139, n139⟩, -, X139, ⟨Lc139, hQ139, l139, y139, z139⟩, st139⟩ := Jvm.LawKit.callS X32 hx (y := (⟨"com/example/castd/castd/mqtt/VariableByteInteger", "length", "([BI)I"⟩ : MethodName)) hown (mvT hZ (hw _ (List.mem_of_getElem? (i := 1) rfl))) (mvT hZ (hw _ (List.mem_of_getElem? (i := 2) rfl))) (mvT hZ (hw _ (List.mem_of_getElem? (i := 3) rfl))) (mvT hZ (hw _ (List.mem_of_getElem? (i := 4) rfl))) (by decide) (backOf (W := 0) (own_v2_rm1 l Z a0 hw [] b1 k1 (nar .byte (own_b0 q1)) (nar .byte (own_b1 q1)) (nar .byte (own_b2 q1)) (nar .byte (own_b3 q1)) (nar .byte (own_b4 q1)) (nar .byte (own_b5 q1)) (nar .byte (own_b6 q1)) (nar .byte (own_b7 q1)) h32 n0 Z34 V_b1_32 (by intro h1 h2 h3; first | contradiction | exact own_clr _)) hZ (hw _ (List.mem_of_getElem? (i := 4) rfl)) (hw _ (List.mem_of_getElem? (i := 3) rfl)) (by decide) (by decide)) (g := (mkF m 217 #[.val (.long q1), .second, .val (.int p2), .val (.int (2 : Int32)), .val (.ref b1), .val (.int (0 : Int32)), .val (.int (1 : Int32)), .val (.int (0 : Int32)), .val (.int (1 : Int32))] [(.int (2 : Int32)), (.ref b1)])) rfl (by rw [hml]; rfl) (argsL := [(.ref b1), (.int (2 : Int32))]) (rest := []) (lenOf own_pd25 rfl) rfl (by show 2 * 0 + _ ≤ _; exact Nat.le_of_eq rfl) (hb hby at_217) (fun _ _ => ⟨rfl, e32, (by decide : 1 + 0 ≤ _), (by decide : 8 + 0 ≤ _)⟩)
              dsimp only [Pt.U, Pt.locs, Pt.cells, Pt.slots] at X139 l139 y139 z139 st139 hQ139
              subst l139 y139 z139
              obtain ⟨rfl, N139q, e139⟩ := hQ139
              have N140 := Fr.app N33 N139q
              have k141 : ∀ t, Steps p.tables e below (T139.setTop (mkF m 222 #[.val (.long q1), .second, .val (.int p2), .val (.int (2 : Int32)), .val (.ref b1), .val (.int (0 : Int32)), .val (.int (1 : Int32)), .val (.int (0 : Int32)), .val (.int (1 : Int32))] [(.int (1 : Int32)), (.int (own_v2_f1 (nar .byte (own_b2 q1)) (nar .byte (own_b3 q1)) (nar .byte (own_b4 q1))))])) t → Steps p.tables e below (s₁.setTop (entryFrame m #[(.long q1), (.int p2)] maxLocals)) t := by
                intro t kt
                refine k138 t ?_
                show Steps p.tables e below (T32.setTop (mkF m 137 #[.val (.long q1), .second, .val (.int p2), .val (.int (2 : Int32)), .val (.ref b1), .val (.int (0 : Int32)), .val (.int (1 : Int32)), .unset, .unset] [(.int ((nar .byte (own_b4 q1)) &&& (128 : Int32)))])) _
                refine XS.ifYes X32.here hx rfl (pc0 := 137) (pc' := 144) rfl (hb hby at_137) rfl ((if0 _ _).trans (teq hc39).1) (by decide) (by decide) ?_
                show Steps p.tables e below (T32.setTop (mkF m 144 #[.val (.long q1), .second, .val (.int p2), .val (.int (2 : Int32)), .val (.ref b1), .val (.int (0 : Int32)), .val (.int (1 : Int32)), .unset, .unset] [])) _
                refine XS.iconst X32.here hx rfl (hb hby at_144) ?_
                show Steps p.tables e below (T32.setTop (mkF m 145 #[.val (.long q1), .second, .val (.int p2), .val (.int (2 : Int32)), .val (.ref b1), .val (.int (0 : Int32)), .val (.int (1 : Int32)), .unset, .unset] [(.int (0 : Int32))])) _
                refine XS.istore X32.here hx rfl (hb hby at_145) rfl (l' := #[.val (.long q1), .second, .val (.int p2), .val (.int (2 : Int32)), .val (.ref b1), .val (.int (0 : Int32)), .val (.int (1 : Int32)), .val (.int (0 : Int32)), .unset]) rfl ?_
                show Steps p.tables e below (T32.setTop (mkF m 147 #[.val (.long q1), .second, .val (.int p2), .val (.int (2 : Int32)), .val (.ref b1), .val (.int (0 : Int32)), .val (.int (1 : Int32)), .val (.int (0 : Int32)), .unset] [])) _
                refine XS.iload X32.here hx rfl (hb hby at_147) rfl ?_
                show Steps p.tables e below (T32.setTop (mkF m 149 #[.val (.long q1), .second, .val (.int p2), .val (.int (2 : Int32)), .val (.ref b1), .val (.int (0 : Int32)), .val (.int (1 : Int32)), .val (.int (0 : Int32)), .unset] [(.int (0 : Int32))])) _
                refine XS.ifYes X32.here hx rfl (pc0 := 149) (pc' := 178) rfl (hb hby at_149) rfl ((if0 _ _).trans (teq (by decide : (0 : Int32) = (0 : Int32))).1) (by decide) (by decide) ?_
                show Steps p.tables e below (T32.setTop (mkF m 178 #[.val (.long q1), .second, .val (.int p2), .val (.int (2 : Int32)), .val (.ref b1), .val (.int (0 : Int32)), .val (.int (1 : Int32)), .val (.int (0 : Int32)), .unset] [])) _
                refine XS.iload X32.here hx rfl (hb hby at_178) rfl ?_
                show Steps p.tables e below (T32.setTop (mkF m 180 #[.val (.long q1), .second, .val (.int p2), .val (.int (2 : Int32)), .val (.ref b1), .val (.int (0 : Int32)), .val (.int (1 : Int32)), .val (.int (0 : Int32)), .unset] [(.int (0 : Int32))])) _
                refine XS.ifNo X32.here hx rfl (hb hby at_180) rfl ((if0 _ _).trans (teq (by decide : (0 : Int32) = (0 : Int32))).2) ?_
                show Steps p.tables e below (T32.setTop (mkF m 183 #[.val (.long q1), .second, .val (.int p2), .val (.int (2 : Int32)), .val (.ref b1), .val (.int (0 : Int32)), .val (.int (1 : Int32)), .val (.int (0 : Int32)), .unset] [])) _
                refine XS.iconst X32.here hx rfl (hb hby at_183) ?_
                show Steps p.tables e below (T32.setTop (mkF m 184 #[.val (.long q1), .second, .val (.int p2), .val (.int (2 : Int32)), .val (.ref b1), .val (.int (0 : Int32)), .val (.int (1 : Int32)), .val (.int (0 : Int32)), .unset] [(.int (1 : Int32))])) _
                refine XS.istore X32.here hx rfl (hb hby at_184) rfl (l' := #[.val (.long q1), .second, .val (.int p2), .val (.int (2 : Int32)), .val (.ref b1), .val (.int (0 : Int32)), .val (.int (1 : Int32)), .val (.int (0 : Int32)), .val (.int (1 : Int32))]) rfl ?_
                show Steps p.tables e below (T32.setTop (mkF m 186 #[.val (.long q1), .second, .val (.int p2), .val (.int (2 : Int32)), .val (.ref b1), .val (.int (0 : Int32)), .val (.int (1 : Int32)), .val (.int (0 : Int32)), .val (.int (1 : Int32))] [])) _
                refine XS.goto X32.here hx rfl (pc0 := 186) (pc' := 214) rfl (hb hby at_186) (by decide) (by decide) ?_
                show Steps p.tables e below (T32.setTop (mkF m 214 #[.val (.long q1), .second, .val (.int p2), .val (.int (2 : Int32)), .val (.ref b1), .val (.int (0 : Int32)), .val (.int (1 : Int32)), .val (.int (0 : Int32)), .val (.int (1 : Int32))] [])) _
                refine XS.aload X32.here hx rfl (hb hby at_214) rfl rfl ?_
                show Steps p.tables e below (T32.setTop (mkF m 216 #[.val (.long q1), .second, .val (.int p2), .val (.int (2 : Int32)), .val (.ref b1), .val (.int (0 : Int32)), .val (.int (1 : Int32)), .val (.int (0 : Int32)), .val (.int (1 : Int32))] [(.ref b1)])) _
                refine XS.iloadN X32.here hx rfl (hb hby at_216) rfl ?_
                show Steps p.tables e below (T32.setTop (mkF m 217 #[.val (.long q1), .second, .val (.int p2), .val (.int (2 : Int32)), .val (.ref b1), .val (.int (0 : Int32)), .val (.int (1 : Int32)), .val (.int (0 : Int32)), .val (.int (1 : Int32))] [(.int (2 : Int32)), (.ref b1)])) _
                refine st139 _ ?_
                show Steps p.tables e below (T139.setTop (mkF m 220 #[.val (.long q1), .second, .val (.int p2), .val (.int (2 : Int32)), .val (.ref b1), .val (.int (0 : Int32)), .val (.int (1 : Int32)), .val (.int (0 : Int32)), .val (.int (1 : Int32))] [(.int (own_v2_f1 (nar .byte (own_b2 q1)) (nar .byte (own_b3 q1)) (nar .byte (own_b4 q1))))])) _
                refine XS.iload X139.here hx rfl (hb hby at_220) rfl ?_
                exact kt
              by_cases hc40 : (own_v2_f1 (nar .byte (own_b2 q1)) (nar .byte (own_b3 q1)) (nar .byte (own_b4 q1))) = (1 : Int32)
              ·
                obtain ⟨fs, hr, hrun, hended, hW, hsame⟩ := X139.leave (v := some (.int (1 : Int32))) (fun h => by rw [Bd.returns] at h; cases h)
                refine ⟨_, _, k141 _ ?_, hrun, hended, _, _, rfl, ?_, ⟨_, rfl⟩, hW, hsame.mono (by decide) (by decide)⟩
                · show Steps p.tables e below (T139.setTop (mkF m 222 #[.val (.long q1), .second, .val (.int p2), .val (.int (2 : Int32)), .val (.ref b1), .val (.int (0 : Int32)), .val (.int (1 : Int32)), .val (.int (0 : Int32)), .val (.int (1 : Int32))] [(.int (1 : Int32)), (.int (own_v2_f1 (nar .byte (own_b2 q1)) (nar .byte (own_b3 q1)) (nar .byte (own_b4 q1))))])) _
                  refine XS.icmpNo X139.here hx rfl (hb hby at_222) rfl (teq hc40).2 ?_
                  show Steps p.tables e below (T139.setTop (mkF m 225 #[.val (.long q1), .second, .val (.int p2), .val (.int (2 : Int32)), .val (.ref b1), .val (.int (0 : Int32)), .val (.int (1 : Int32)), .val (.int (0 : Int32)), .val (.int (1 : Int32))] [])) _
                  refine XS.iconst X139.here hx rfl (hb hby at_225) ?_
                  show Steps p.tables e below (T139.setTop (mkF m 226 #[.val (.long q1), .second, .val (.int p2), .val (.int (2 : Int32)), .val (.ref b1), .val (.int (0 : Int32)), .val (.int (1 : Int32)), .val (.int (0 : Int32)), .val (.int (1 : Int32))] [(.int (1 : Int32))])) _
                  refine XS.goto X139.here hx rfl (pc0 := 226) (pc' := 230) rfl (hb hby at_226) (by decide) (by decide) ?_
                  show Steps p.tables e below (T139.setTop (mkF m 230 #[.val (.long q1), .second, .val (.int p2), .val (.int (2 : Int32)), .val (.ref b1), .val (.int (0 : Int32)), .val (.int (1 : Int32)), .val (.int (0 : Int32)), .val (.int (1 : Int32))] [(.int (1 : Int32))])) _
                  exact retN X139 hx (t := .boolean) Bd.returns (by simp) (hb hby at_230) hr
                · show own_Q0 Z q1 p2 h0 n0 _ T139.heap _
                  rw [e139]
                  exact ⟨(by rw [own_f0, if_neg hc1, if_neg hc17, if_pos hc33, if_pos hc34, if_neg hc35, if_pos hc39, if_pos hc40]), N140⟩
              ·
                obtain ⟨fs, hr, hrun, hended, hW, hsame⟩ := X139.leave (v := some (.int (0 : Int32))) (fun h => by rw [Bd.returns] at h; cases h)
                refine ⟨_, _, k141 _ ?_, hrun, hended, _, _, rfl, ?_, ⟨_, rfl⟩, hW, hsame.mono (by decide) (by decide)⟩
                · show Steps p.tables e below (T139.setTop (mkF m 222 #[.val (.long q1), .second, .val (.int p2), .val (.int (2 : Int32)), .val (.ref b1), .val (.int (0 : Int32)), .val (.int (1 : Int32)), .val (.int (0 : Int32)), .val (.int (1 : Int32))] [(.int (1 : Int32)), (.int (own_v2_f1 (nar .byte (own_b2 q1)) (nar .byte (own_b3 q1)) (nar .byte (own_b4 q1))))])) _
                  refine XS.icmpYes X139.here hx rfl (pc0 := 222) (pc' := 229) rfl (hb hby at_222) rfl (feq hc40).2 (by decide) (by decide) ?_
                  show Steps p.tables e below (T139.setTop (mkF m 229 #[.val (.long q1), .second, .val (.int p2), .val (.int (2 : Int32)), .val (.ref b1), .val (.int (0 : Int32)), .val (.int (1 : Int32)), .val (.int (0 : Int32)), .val (.int (1 : Int32))] [])) _
                  refine XS.iconst X139.here hx rfl (hb hby at_229) ?_
                  show Steps p.tables e below (T139.setTop (mkF m 230 #[.val (.long q1), .second, .val (.int p2), .val (.int (2 : Int32)), .val (.ref b1), .val (.int (0 : Int32)), .val (.int (1 : Int32)), .val (.int (0 : Int32)), .val (.int (1 : Int32))] [(.int (0 : Int32))])) _
                  exact retN X139 hx (t := .boolean) Bd.returns (by simp) (hb hby at_230) hr
                · show own_Q0 Z q1 p2 h0 n0 _ T139.heap _
                  rw [e139]
                  exact ⟨(by rw [own_f0, if_neg hc1, if_neg hc17, if_pos hc33, if_pos hc34, if_neg hc35, if_pos hc39, if_neg hc40]), N140⟩
            ·
              obtain ⟨v142, _, ⟨T142, L142, k142, n142⟩, -, X142, ⟨Lc142, hQ142, l142, y142, z142⟩, st142⟩ := Jvm.LawKit.callS X32 hx (y := (⟨"com/example/castd/castd/mqtt/VariableByteInteger", "length", "([BI)I"⟩ : MethodName)) hown (mvT hZ (hw _ (List.mem_of_getElem? (i := 1) rfl))) (mvT hZ (hw _ (List.mem_of_getElem? (i := 2) rfl))) (mvT hZ (hw _ (List.mem_of_getElem? (i := 3) rfl))) (mvT hZ (hw _ (List.mem_of_getElem? (i := 4) rfl))) (by decide) (backOf (W := 0) (own_v2_rm1 l Z a0 hw [] b1 k1 (nar .byte (own_b0 q1)) (nar .byte (own_b1 q1)) (nar .byte (own_b2 q1)) (nar .byte (own_b3 q1)) (nar .byte (own_b4 q1)) (nar .byte (own_b5 q1)) (nar .byte (own_b6 q1)) (nar .byte (own_b7 q1)) h32 n0 Z34 V_b1_32 (by intro h1 h2 h3; first | contradiction | exact own_clr _)) hZ (hw _ (List.mem_of_getElem? (i := 4) rfl)) (hw _ (List.mem_of_getElem? (i := 3) rfl)) (by decide) (by decide)) (g := (mkF m 217 #[.val (.long q1), .second, .val (.int p2), .val (.int (2 : Int32)), .val (.ref b1), .val (.int (0 : Int32)), .val (.int (1 : Int32)), .val (.int (1 : Int32)), .val (.int (1 : Int32))] [(.int (2 : Int32)), (.ref b1)])) rfl (by rw [hml]; rfl) (argsL := [(.ref b1), (.int (2 : Int32))]) (rest := []) (lenOf own_pd25 rfl) rfl (by show 2 * 0 + _ ≤ _; exact Nat.le_of_eq rfl) (hb hby at_217) (fun _ _ => ⟨rfl, e32, (by decide : 1 + 0 ≤ _), (by decide : 8 + 0 ≤ _)⟩)
              dsimp only [Pt.U, Pt.locs, Pt.cells, Pt.slots] at X142 l142 y142 z142 st142 hQ142
              subst l142 y142 z142
              obtain ⟨rfl, N142q, e142⟩ := hQ142
              have N143 := Fr.app N33 N142q
              have k144 : ∀ t, Steps p.tables e below (T142.setTop (mkF m 222 #[.val (.long q1), .second, .val (.int p2), .val (.int (2 : Int32)), .val (.ref b1), .val (.int (0 : Int32)), .val (.int (1 : Int32)), .val (.int (1 : Int32)), .val (.int (1 : Int32))] [(.int (1 : Int32)), (.int (own_v2_f1 (nar .byte (own_b2 q1)) (nar .byte (own_b3 q1)) (nar .byte (own_b4 q1))))])) t → Steps p.tables e below (s₁.setTop (entryFrame m #[(.long q1), (.int p2)] maxLocals)) t := by
                intro t kt
                refine k138 t ?_
                show Steps p.tables e below (T32.setTop (mkF m 137 #[.val (.long q1), .second, .val (.int p2), .val (.int (2 : Int32)), .val (.ref b1), .val (.int (0 : Int32)), .val (.int (1 : Int32)), .unset, .unset] [(.int ((nar .byte (own_b4 q1)) &&& (128 : Int32)))])) _
                refine XS.ifNo X32.here hx rfl (hb hby at_137) rfl ((if0 _ _).trans (feq hc39).1) ?_
                show Steps p.tables e below (T32.setTop (mkF m 140 #[.val (.long q1), .second, .val (.int p2), .val (.int (2 : Int32)), .val (.ref b1), .val (.int (0 : Int32)), .val (.int (1 : Int32)), .unset, .unset] [])) _
                refine XS.iconst X32.here hx rfl (hb hby at_140) ?_
                show Steps p.tables e below (T32.setTop (mkF m 141 #[.val (.long q1), .second, .val (.int p2), .val (.int (2 : Int32)), .val (.ref b1), .val (.int (0 : Int32)), .val (.int (1 : Int32)), .unset, .unset] [(.int (1 : Int32))])) _
                refine XS.goto X32.here hx rfl (pc0 := 141) (pc' := 145) rfl (hb hby at_141) (by decide) (by decide) ?_
                show Steps p.tables e below (T32.setTop (mkF m 145 #[.val (.long q1), .second, .val (.int p2), .val (.int (2 : Int32)), .val (.ref b1), .val (.int (0 : Int32)), .val (.int (1 : Int32)), .unset, .unset] [(.int (1 : Int32))])) _
                refine XS.istore X32.here hx rfl (hb hby at_145) rfl (l' := #[.val (.long q1), .second, .val (.int p2), .val (.int (2 : Int32)), .val (.ref b1), .val (.int (0 : Int32)), .val (.int (1 : Int32)), .val (.int (1 : Int32)), .unset]) rfl ?_
                show Steps p.tables e below (T32.setTop (mkF m 147 #[.val (.long q1), .second, .val (.int p2), .val (.int (2 : Int32)), .val (.ref b1), .val (.int (0 : Int32)), .val (.int (1 : Int32)), .val (.int (1 : Int32)), .unset] [])) _
                refine XS.iload X32.here hx rfl (hb hby at_147) rfl ?_
                show Steps p.tables e below (T32.setTop (mkF m 149 #[.val (.long q1), .second, .val (.int p2), .val (.int (2 : Int32)), .val (.ref b1), .val (.int (0 : Int32)), .val (.int (1 : Int32)), .val (.int (1 : Int32)), .unset] [(.int (0 : Int32))])) _
                refine XS.ifYes X32.here hx rfl (pc0 := 149) (pc' := 178) rfl (hb hby at_149) rfl ((if0 _ _).trans (teq (by decide : (0 : Int32) = (0 : Int32))).1) (by decide) (by decide) ?_
                show Steps p.tables e below (T32.setTop (mkF m 178 #[.val (.long q1), .second, .val (.int p2), .val (.int (2 : Int32)), .val (.ref b1), .val (.int (0 : Int32)), .val (.int (1 : Int32)), .val (.int (1 : Int32)), .unset] [])) _
                refine XS.iload X32.here hx rfl (hb hby at_178) rfl ?_
                show Steps p.tables e below (T32.setTop (mkF m 180 #[.val (.long q1), .second, .val (.int p2), .val (.int (2 : Int32)), .val (.ref b1), .val (.int (0 : Int32)), .val (.int (1 : Int32)), .val (.int (1 : Int32)), .unset] [(.int (0 : Int32))])) _
                refine XS.ifNo X32.here hx rfl (hb hby at_180) rfl ((if0 _ _).trans (teq (by decide : (0 : Int32) = (0 : Int32))).2) ?_
                show Steps p.tables e below (T32.setTop (mkF m 183 #[.val (.long q1), .second, .val (.int p2), .val (.int (2 : Int32)), .val (.ref b1), .val (.int (0 : Int32)), .val (.int (1 : Int32)), .val (.int (1 : Int32)), .unset] [])) _
                refine XS.iconst X32.here hx rfl (hb hby at_183) ?_
                show Steps p.tables e below (T32.setTop (mkF m 184 #[.val (.long q1), .second, .val (.int p2), .val (.int (2 : Int32)), .val (.ref b1), .val (.int (0 : Int32)), .val (.int (1 : Int32)), .val (.int (1 : Int32)), .unset] [(.int (1 : Int32))])) _
                refine XS.istore X32.here hx rfl (hb hby at_184) rfl (l' := #[.val (.long q1), .second, .val (.int p2), .val (.int (2 : Int32)), .val (.ref b1), .val (.int (0 : Int32)), .val (.int (1 : Int32)), .val (.int (1 : Int32)), .val (.int (1 : Int32))]) rfl ?_
                show Steps p.tables e below (T32.setTop (mkF m 186 #[.val (.long q1), .second, .val (.int p2), .val (.int (2 : Int32)), .val (.ref b1), .val (.int (0 : Int32)), .val (.int (1 : Int32)), .val (.int (1 : Int32)), .val (.int (1 : Int32))] [])) _
                refine XS.goto X32.here hx rfl (pc0 := 186) (pc' := 214) rfl (hb hby at_186) (by decide) (by decide) ?_
                show Steps p.tables e below (T32.setTop (mkF m 214 #[.val (.long q1), .second, .val (.int p2), .val (.int (2 : Int32)), .val (.ref b1), .val (.int (0 : Int32)), .val (.int (1 : Int32)), .val (.int (1 : Int32)), .val (.int (1 : Int32))] [])) _
                refine XS.aload X32.here hx rfl (hb hby at_214) rfl rfl ?_
                show Steps p.tables e below (T32.setTop (mkF m 216 #[.val (.long q1), .second, .val (.int p2), .val (.int (2 : Int32)), .val (.ref b1), .val (.int (0 : Int32)), .val (.int (1 : Int32)), .val (.int (1 : Int32)), .val (.int (1 : Int32))] [(.ref b1)])) _
                refine XS.iloadN X32.here hx rfl (hb hby at_216) rfl ?_
                show Steps p.tables e below (T32.setTop (mkF m 217 #[.val (.long q1), .second, .val (.int p2), .val (.int (2 : Int32)), .val (.ref b1), .val (.int (0 : Int32)), .val (.int (1 : Int32)), .val (.int (1 : Int32)), .val (.int (1 : Int32))] [(.int (2 : Int32)), (.ref b1)])) _
                refine st142 _ ?_
                show Steps p.tables e below (T142.setTop (mkF m 220 #[.val (.long q1), .second, .val (.int p2), .val (.int (2 : Int32)), .val (.ref b1), .val (.int (0 : Int32)), .val (.int (1 : Int32)), .val (.int (1 : Int32)), .val (.int (1 : Int32))] [(.int (own_v2_f1 (nar .byte (own_b2 q1)) (nar .byte (own_b3 q1)) (nar .byte (own_b4 q1))))])) _
                refine XS.iload X142.here hx rfl (hb hby at_220) rfl ?_
                exact kt
              by_cases hc41 : (own_v2_f1 (nar .byte (own_b2 q1)) (nar .byte (own_b3 q1)) (nar .byte (own_b4 q1))) = (1 : Int32)
              ·
                obtain ⟨fs, hr, hrun, hended, hW, hsame⟩ := X142.leave (v := some (.int (1 : Int32))) (fun h => by rw [Bd.returns] at h; cases h)
                refine ⟨_, _, k144 _ ?_, hrun, hended, _, _, rfl, ?_, ⟨_, rfl⟩, hW, hsame.mono (by decide) (by decide)⟩
                · show Steps p.tables e below (T142.setTop (mkF m 222 #[.val (.long q1), .second, .val (.int p2), .val (.int (2 : Int32)), .val (.ref b1), .val (.int (0 : Int32)), .val (.int (1 : Int32)), .val (.int (1 : Int32)), .val (.int (1 : Int32))] [(.int (1 : Int32)), (.int (own_v2_f1 (nar .byte (own_b2 q1)) (nar .byte (own_b3 q1)) (nar .byte (own_b4 q1))))])) _
                  refine XS.icmpNo X142.here hx rfl (hb hby at_222) rfl (teq hc41).2 ?_
                  show Steps p.tables e below (T142.setTop (mkF m 225 #[.val (.long q1), .second, .val (.int p2), .val (.int (2 : Int32)), .val (.ref b1), .val (.int (0 : Int32)), .val (.int (1 : Int32)), .val (.int (1 : Int32)), .val (.int (1 : Int32))] [])) _
                  refine XS.iconst X142.here hx rfl (hb hby at_225) ?_
                  show Steps p.tables e below (T142.setTop (mkF m 226 #[.val (.long q1), .second, .val (.int p2), .val (.int (2 : Int32)), .val (.ref b1), .val (.int (0 : Int32)), .val (.int (1 : Int32)), .val (.int (1 : Int32)), .val (.int (1 : Int32))] [(.int (1 : Int32))])) _
                  refine XS.goto X142.here hx rfl (pc0 := 226) (pc' := 230) rfl (hb hby at_226) (by decide) (by decide) ?_
                  show Steps p.tables e below (T142.setTop (mkF m 230 #[.val (.long q1), .second, .val (.int p2), .val (.int (2 : Int32)), .val (.ref b1), .val (.int (0 : Int32)), .val (.int (1 : Int32)), .val (.int (1 : Int32)), .val (.int (1 : Int32))] [(.int (1 : Int32))])) _
                  exact retN X142 hx (t := .boolean) Bd.returns (by simp) (hb hby at_230) hr
                · show own_Q0 Z q1 p2 h0 n0 _ T142.heap _
                  rw [e142]
                  exact ⟨(by rw [own_f0, if_neg hc1, if_neg hc17, if_pos hc33, if_pos hc34, if_neg hc35, if_neg hc39, if_pos hc41]), N143⟩
              ·
                obtain ⟨fs, hr, hrun, hended, hW, hsame⟩ := X142.leave (v := some (.int (0 : Int32))) (fun h => by rw [Bd.returns] at h; cases h)
                refine ⟨_, _, k144 _ ?_, hrun, hended, _, _, rfl, ?_, ⟨_, rfl⟩, hW, hsame.mono (by decide) (by decide)⟩
                · show Steps p.tables e below (T142.setTop (mkF m 222 #[.val (.long q1), .second, .val (.int p2), .val (.int (2 : Int32)), .val (.ref b1), .val (.int (0 : Int32)), .val (.int (1 : Int32)), .val (.int (1 : Int32)), .val (.int (1 : Int32))] [(.int (1 : Int32)), (.int (own_v2_f1 (nar .byte (own_b2 q1)) (nar .byte (own_b3 q1)) (nar .byte (own_b4 q1))))])) _
                  refine XS.icmpYes X142.here hx rfl (pc0 := 222) (pc' := 229) rfl (hb hby at_222) rfl (feq hc41).2 (by decide) (by decide) ?_
                  show Steps p.tables e below (T142.setTop (mkF m 229 #[.val (.long q1), .second, .val (.int p2), .val (.int (2 : Int32)), .val (.ref b1), .val (.int (0 : Int32)), .val (.int (1 : Int32)), .val (.int (1 : Int32)), .val (.int (1 : Int32))] [])) _
                  refine XS.iconst X142.here hx rfl (hb hby at_229) ?_
                  show Steps p.tables e below (T142.setTop (mkF m 230 #[.val (.long q1), .second, .val (.int p2), .val (.int (2 : Int32)), .val (.ref b1), .val (.int (0 : Int32)), .val (.int (1 : Int32)), .val (.int (1 : Int32)), .val (.int (1 : Int32))] [(.int (0 : Int32))])) _
                  exact retN X142 hx (t := .boolean) Bd.returns (by simp) (hb hby at_230) hr
                · show own_Q0 Z q1 p2 h0 n0 _ T142.heap _
                  rw [e142]
                  exact ⟨(by rw [own_f0, if_neg hc1, if_neg hc17, if_pos hc33, if_pos hc34, if_neg hc35, if_neg hc39, if_neg hc41]), N143⟩
        ·
          obtain ⟨cl145, Ar145, qk145, Sz145, Nn145, Hs145, Gf145⟩ := id V_b1_32
          have hin145 : ¬ ((3 : Int32) < 0 ∨ cl145.slots.size ≤ ((3 : Int32)).toNatClampNeg) := inb_of Sz145 ⟨by decide, by decide⟩
          have hat145 : cl145.slots[((3 : Int32)).toNatClampNeg]? = some (.int (nar .byte (own_b3 q1))) := Has.at Hs145 hin145 rfl
          have k146 : ∀ t, Steps p.tables e below (T32.setTop (mkF m 117 #[.val (.long q1), .second, .val (.int p2), .val (.int (2 : Int32)), .val (.ref b1), .val (.int (1 : Int32)), .unset, .unset, .unset] [(.int ((nar .byte (own_b3 q1)) &&& (128 : Int32)))])) t → Steps p.tables e below (s₁.setTop (entryFrame m #[(.long q1), (.int p2)] maxLocals)) t := by
            intro t kt
            refine k126 t ?_
            show Steps p.tables e below (T32.setTop (mkF m 97 #[.val (.long q1), .second, .val (.int p2), .val (.int (2 : Int32)), .val (.ref b1), .unset, .unset, .unset, .unset] [(.int ((nar .byte (own_b2 q1)) &&& (128 : Int32)))])) _
            refine XS.ifNo X32.here hx rfl (hb hby at_97) rfl ((if0 _ _).trans (feq hc34).1) ?_
            show Steps p.tables e below (T32.setTop (mkF m 100 #[.val (.long q1), .second, .val (.int p2), .val (.int (2 : Int32)), .val (.ref b1), .unset, .unset, .unset, .unset] [])) _
            refine XS.iconst X32.here hx rfl (hb hby at_100) ?_
            show Steps p.tables e below (T32.setTop (mkF m 101 #[.val (.long q1), .second, .val (.int p2), .val (.int (2 : Int32)), .val (.ref b1), .unset, .unset, .unset, .unset] [(.int (1 : Int32))])) _
            refine XS.goto X32.here hx rfl (pc0 := 101) (pc' := 105) rfl (hb hby at_101) (by decide) (by decide) ?_
            show Steps p.tables e below (T32.setTop (mkF m 105 #[.val (.long q1), .second, .val (.int p2), .val (.int (2 : Int32)), .val (.ref b1), .unset, .unset, .unset, .unset] [(.int (1 : Int32))])) _
            refine XS.istore X32.here hx rfl (hb hby at_105) rfl (l' := #[.val (.long q1), .second, .val (.int p2), .val (.int (2 : Int32)), .val (.ref b1), .val (.int (1 : Int32)), .unset, .unset, .unset]) rfl ?_
            show Steps p.tables e below (T32.setTop (mkF m 107 #[.val (.long q1), .second, .val (.int p2), .val (.int (2 : Int32)), .val (.ref b1), .val (.int (1 : Int32)), .unset, .unset, .unset] [])) _
            refine XS.aload X32.here hx rfl (hb hby at_107) rfl rfl ?_
            show Steps p.tables e below (T32.setTop (mkF m 109 #[.val (.long q1), .second, .val (.int p2), .val (.int (2 : Int32)), .val (.ref b1), .val (.int (1 : Int32)), .unset, .unset, .unset] [(.ref b1)])) _
            refine XS.iloadN X32.here hx rfl (hb hby at_109) rfl ?_
            show Steps p.tables e below (T32.setTop (mkF m 110 #[.val (.long q1), .second, .val (.int p2), .val (.int (2 : Int32)), .val (.ref b1), .val (.int (1 : Int32)), .unset, .unset, .unset] [(.int (2 : Int32)), (.ref b1)])) _
            refine XS.iconst X32.here hx rfl (hb hby at_110) ?_
            show Steps p.tables e below (T32.setTop (mkF m 111 #[.val (.long q1), .second, .val (.int p2), .val (.int (2 : Int32)), .val (.ref b1), .val (.int (1 : Int32)), .unset, .unset, .unset] [(.int (1 : Int32)), (.int (2 : Int32)), (.ref b1)])) _
            refine XS.iadd X32.here hx rfl (hb hby at_111) rfl ?_
            show Steps p.tables e below (T32.setTop (mkF m 112 #[.val (.long q1), .second, .val (.int p2), .val (.int (2 : Int32)), .val (.ref b1), .val (.int (1 : Int32)), .unset, .unset, .unset] [(.int (3 : Int32)), (.ref b1)])) _
            refine X32.baloadBytes hx (j := (3 : Int32)) (v := (.int (nar .byte (own_b3 q1)))) (by rw [e32]; exact Ar145.1) (State.isArrayOf_alike hZ.alike Ar145.2.1) Ar145.2.2 hin145 hat145 (g := (mkF m 112 #[.val (.long q1), .second, .val (.int p2), .val (.int (2 : Int32)), .val (.ref b1), .val (.int (1 : Int32)), .unset, .unset, .unset] [(.int (3 : Int32)), (.ref b1)])) rfl rfl (hb hby at_112) _ ?_
            show Steps p.tables e below (T32.setTop (mkF m 113 #[.val (.long q1), .second, .val (.int p2), .val (.int (2 : Int32)), .val (.ref b1), .val (.int (1 : Int32)), .unset, .unset, .unset] [(.int (nar .byte (own_b3 q1)))])) _
            refine XS.sipush X32.here hx rfl (hb hby at_113) ?_
            show Steps p.tables e below (T32.setTop (mkF m 116 #[.val (.long q1), .second, .val (.int p2), .val (.int (2 : Int32)), .val (.ref b1), .val (.int (1 : Int32)), .unset, .unset, .unset] [(.int (128 : Int32)), (.int (nar .byte (own_b3 q1)))])) _
            refine XS.iand X32.here hx rfl (hb hby at_116) rfl ?_
            exact kt
          by_cases hc42 : ((nar .byte (own_b3 q1)) &&& (128 : Int32)) = (0 : Int32)
          ·
            obtain ⟨cl147, Ar147, qk147, Sz147, Nn147, Hs147, Gf147⟩ := id V_b1_32
            have hin147 : ¬ ((4 : Int32) < 0 ∨ cl147.slots.size ≤ ((4 : Int32)).toNatClampNeg) := inb_of Sz147 ⟨by decide, by decide⟩
            have hat147 : cl147.slots[((4 : Int32)).toNatClampNeg]? = some (.int (nar .byte (own_b4 q1))) := Has.at Hs147 hin147 rfl
            have k148 : ∀ t, Steps p.tables e below (T32.setTop (mkF m 137 #[.val (.long q1), .second, .val (.int p2), .val (.int (2 : Int32)), .val (.ref b1), .val (.int (1 : Int32)), .val (.int (0 : Int32)), .unset, .unset] [(.int ((nar .byte (own_b4 q1)) &&& (128 : Int32)))])) t → Steps p.tables e below (s₁.setTop (entryFrame m #[(.long q1), (.int p2)] maxLocals)) t := by
              intro t kt
              refine k146 t ?_
              show Steps p.tables e below (T32.setTop (mkF m 117 #[.val (.long q1), .second, .val (.int p2), .val (.int (2 : Int32)), .val (.ref b1), .val (.int (1 : Int32)), .unset, .unset, .unset] [(.int ((nar .byte (own_b3 q1)) &&& (128 : Int32)))])) _
              refine XS.ifYes X32.here hx rfl (pc0 := 117) (pc' := 124) rfl (hb hby at_117) rfl ((if0 _ _).trans (teq hc42).1) (by decide) (by decide) ?_
              show Steps p.tables e below (T32.setTop (mkF m 124 #[.val (.long q1), .second, .val (.int p2), .val (.int (2 : Int32)), .val (.ref b1), .val (.int (1 : Int32)), .unset, .unset, .unset] [])) _
              refine XS.iconst X32.here hx rfl (hb hby at_124) ?_
              show Steps p.tables e below (T32.setTop (mkF m 125 #[.val (.long q1), .second, .val (.int p2), .val (.int (2 : Int32)), .val (.ref b1), .val (.int (1 : Int32)), .unset, .unset, .unset] [(.int (0 : Int32))])) _
              refine XS.istore X32.here hx rfl (hb hby at_125) rfl (l' := #[.val (.long q1), .second, .val (.int p2), .val (.int (2 : Int32)), .val (.ref b1), .val (.int (1 : Int32)), .val (.int (0 : Int32)), .unset, .unset]) rfl ?_
              show Steps p.tables e below (T32.setTop (mkF m 127 #[.val (.long q1), .second, .val (.int p2), .val (.int (2 : Int32)), .val (.ref b1), .val (.int (1 : Int32)), .val (.int (0 : Int32)), .unset, .unset] [])) _
              refine XS.aload X32.here hx rfl (hb hby at_127) rfl rfl ?_
              show Steps p.tables e below (T32.setTop (mkF m 129 #[.val (.long q1), .second, .val (.int p2), .val (.int (2 : Int32)), .val (.ref b1), .val (.int (1 : Int32)), .val (.int (0 : Int32)), .unset, .unset] [(.ref b1)])) _
              refine XS.iloadN X32.here hx rfl (hb hby at_129) rfl ?_
              show Steps p.tables e below (T32.setTop (mkF m 130 #[.val (.long q1), .second, .val (.int p2), .val (.int (2 : Int32)), .val (.ref b1), .val (.int (1 : Int32)), .val (.int (0 : Int32)), .unset, .unset] [(.int (2 : Int32)), (.ref b1)])) _
              refine XS.iconst X32.here hx rfl (hb hby at_130) ?_
              show Steps p.tables e below (T32.setTop (mkF m 131 #[.val (.long q1), .second, .val (.int p2), .val (.int (2 : Int32)), .val (.ref b1), .val (.int (1 : Int32)), .val (.int (0 : Int32)), .unset, .unset] [(.int (2 : Int32)), (.int (2 : Int32)), (.ref b1)])) _
              refine XS.iadd X32.here hx rfl (hb hby at_131) rfl ?_
              show Steps p.tables e below (T32.setTop (mkF m 132 #[.val (.long q1), .second, .val (.int p2), .val (.int (2 : Int32)), .val (.ref b1), .val (.int (1 : Int32)), .val (.int (0 : Int32)), .unset, .unset] [(.int (4 : Int32)), (.ref b1)])) _
              refine X32.baloadBytes hx (j := (4 : Int32)) (v := (.int (nar .byte (own_b4 q1)))) (by rw [e32]; exact Ar147.1) (State.isArrayOf_alike hZ.alike Ar147.2.1) Ar147.2.2 hin147 hat147 (g := (mkF m 132 #[.val (.long q1), .second, .val (.int p2), .val (.int (2 : Int32)), .val (.ref b1), .val (.int (1 : Int32)), .val (.int (0 : Int32)), .unset, .unset] [(.int (4 : Int32)), (.ref b1)])) rfl rfl (hb hby at_132) _ ?_
              show Steps p.tables e below (T32.setTop (mkF m 133 #[.val (.long q1), .second, .val (.int p2), .val (.int (2 : Int32)), .val (.ref b1), .val (.int (1 : Int32)), .val (.int (0 : Int32)), .unset, .unset] [(.int (nar .byte (own_b4 q1)))])) _
              refine XS.sipush X32.here hx rfl (hb hby at_133) ?_
              show Steps p.tables e below (T32.setTop (mkF m 136 #[.val (.long q1), .second, .val (.int p2), .val (.int (2 : Int32)), .val (.ref b1), .val (.int (1 : Int32)), .val (.int (0 : Int32)), .unset, .unset] [(.int (128 : Int32)), (.int (nar .byte (own_b4 q1)))])) _
              refine XS.iand X32.here hx rfl (hb hby at_136) rfl ?_
              exact kt
            by_cases hc43 : ((nar .byte (own_b4 q1)) &&& (128 : Int32)) = (0 : Int32)
            ·
              obtain ⟨v149, _, ⟨T149, L149, k149, n149⟩, -, X149, ⟨Lc149, hQ149, l149, y149, z149⟩, st149⟩ := Jvm.LawKit.callS X32 hx (y := (⟨"com/example/castd/castd/mqtt/VariableByteInteger", "length", "([BI)I"⟩ : MethodName)) hown (mvT hZ (hw _ (List.mem_of_getElem? (i := 1) rfl))) (mvT hZ (hw _ (List.mem_of_getElem? (i := 2) rfl))) (mvT hZ (hw _ (List.mem_of_getElem? (i := 3) rfl))) (mvT hZ (hw _ (List.mem_of_getElem? (i := 4) rfl))) (by decide) (backOf (W := 0) (own_v2_rm1 l Z a0 hw [] b1 k1 (nar .byte (own_b0 q1)) (nar .byte (own_b1 q1)) (nar .byte (own_b2 q1)) (nar .byte (own_b3 q1)) (nar .byte (own_b4 q1)) (nar .byte (own_b5 q1)) (nar .byte (own_b6 q1)) (nar .byte (own_b7 q1)) h32 n0 Z34 V_b1_32 (by intro h1 h2 h3; first | contradiction | exact own_clr _)) hZ (hw _ (List.mem_of_getElem? (i := 4) rfl)) (hw _ (List.mem_of_getElem? (i := 3) rfl)) (by decide) (by decide)) (g := (mkF m 217 #[.val (.long q1), .second, .val (.int p2), .val (.int (2 : Int32)), .val (.ref b1), .val (.int (1 : Int32)), .val (.int (0 : Int32)), .val (.int (0 : Int32)), .val (.int (2 : Int32))] [(.int (2 : Int32)), (.ref b1)])) rfl (by rw [hml]; rfl) (argsL := [(.ref b1), (.int (2 : Int32))]) (rest := []) (lenOf own_pd25 rfl) rfl (by show 2 * 0 + _ ≤ _; exact Nat.le_of_eq rfl) (hb hby at_217) (fun _ _ => ⟨rfl, e32, (by decide : 1 + 0 ≤ _), (by decide : 8 + 0 ≤ _)⟩)
              dsimp only [Pt.U, Pt.locs, Pt.cells, Pt.slots] at X149 l149 y149 z149 st149 hQ149
              subst l149 y149 z149
              obtain ⟨rfl, N149q, e149⟩ := hQ149
              have N150 := Fr.app N33 N149q
              have k151 : ∀ t, Steps p.tables e below (T149.setTop (mkF m 222 #[.val (.long q1), .second, .val (.int p2), .val (.int (2 : Int32)), .val (.ref b1), .val (.int (1 : Int32)), .val (.int (0 : Int32)), .val (.int (0 : Int32)), .val (.int (2 : Int32))] [(.int (2 : Int32)), (.int (own_v2_f1 (nar .byte (own_b2 q1)) (nar .byte (own_b3 q1)) (nar .byte (own_b4 q1))))])) t → Steps p.tables e below (s₁.setTop (entryFrame m #[(.long q1), (.int p2)] maxLocals)) t := by
                intro t kt
                refine k148 t ?_
                show Steps p.tables e below (T32.setTop (mkF m 137 #[.val (.long q1), .second, .val (.int p2), .val (.int (2 : Int32)), .val (.ref b1), .val (.int (1 : Int32)), .val (.int (0 : Int32)), .unset, .unset] [(.int ((nar .byte (own_b4 q1)) &&& (128 : Int32)))])) _
                refine XS.ifYes X32.here hx rfl (pc0 := 137) (pc' := 144) rfl (hb hby at_137) rfl ((if0 _ _).trans (teq hc43).1) (by decide) (by decide) ?_
                show Steps p.tables e below (T32.setTop (mkF m 144 #[.val (.long q1), .second, .val (.int p2), .val (.int (2 : Int32)), .val (.ref b1), .val (.int (1 : Int32)), .val (.int (0 : Int32)), .unset, .unset] [])) _
                refine XS.iconst X32.here hx rfl (hb hby at_144) ?_
                show Steps p.tables e below (T32.setTop (mkF m 145 #[.val (.long q1), .second, .val (.int p2), .val (.int (2 : Int32)), .val (.ref b1), .val (.int (1 : Int32)), .val (.int (0 : Int32)), .unset, .unset] [(.int (0 : Int32))])) _
                refine XS.istore X32.here hx rfl (hb hby at_145) rfl (l' := #[.val (.long q1), .second, .val (.int p2), .val (.int (2 : Int32)), .val (.ref b1), .val (.int (1 : Int32)), .val (.int (0 : Int32)), .val (.int (0 : Int32)), .unset]) rfl ?_
                show Steps p.tables e below (T32.setTop (mkF m 147 #[.val (.long q1), .second, .val (.int p2), .val (.int (2 : Int32)), .val (.ref b1), .val (.int (1 : Int32)), .val (.int (0 : Int32)), .val (.int (0 : Int32)), .unset] [])) _
                refine XS.iload X32.here hx rfl (hb hby at_147) rfl ?_
                show Steps p.tables e below (T32.setTop (mkF m 149 #[.val (.long q1), .second, .val (.int p2), .val (.int (2 : Int32)), .val (.ref b1), .val (.int (1 : Int32)), .val (.int (0 : Int32)), .val (.int (0 : Int32)), .unset] [(.int (1 : Int32))])) _
                refine XS.ifNo X32.here hx rfl (hb hby at_149) rfl ((if0 _ _).trans (feq (by decide : ¬ ((1 : Int32) = (0 : Int32)))).1) ?_
                show Steps p.tables e below (T32.setTop (mkF m 152 #[.val (.long q1), .second, .val (.int p2), .val (.int (2 : Int32)), .val (.ref b1), .val (.int (1 : Int32)), .val (.int (0 : Int32)), .val (.int (0 : Int32)), .unset] [])) _
                refine XS.iload X32.here hx rfl (hb hby at_152) rfl ?_
                show Steps p.tables e below (T32.setTop (mkF m 154 #[.val (.long q1), .second, .val (.int p2), .val (.int (2 : Int32)), .val (.ref b1), .val (.int (1 : Int32)), .val (.int (0 : Int32)), .val (.int (0 : Int32)), .unset] [(.int (0 : Int32))])) _
                refine XS.ifYes X32.here hx rfl (pc0 := 154) (pc' := 178) rfl (hb hby at_154) rfl ((if0 _ _).trans (teq (by decide : (0 : Int32) = (0 : Int32))).1) (by decide) (by decide) ?_
                show Steps p.tables e below (T32.setTop (mkF m 178 #[.val (.long q1), .second, .val (.int p2), .val (.int (2 : Int32)), .val (.ref b1), .val (.int (1 : Int32)), .val (.int (0 : Int32)), .val (.int (0 : Int32)), .unset] [])) _
                refine XS.iload X32.here hx rfl (hb hby at_178) rfl ?_
                show Steps p.tables e below (T32.setTop (mkF m 180 #[.val (.long q1), .second, .val (.int p2), .val (.int (2 : Int32)), .val (.ref b1), .val (.int (1 : Int32)), .val (.int (0 : Int32)), .val (.int (0 : Int32)), .unset] [(.int (1 : Int32))])) _
                refine XS.ifYes X32.here hx rfl (pc0 := 180) (pc' := 189) rfl (hb hby at_180) rfl ((if0 _ _).trans (feq (by decide : ¬ ((1 : Int32) = (0 : Int32)))).2) (by decide) (by decide) ?_
                show Steps p.tables e below (T32.setTop (mkF m 189 #[.val (.long q1), .second, .val (.int p2), .val (.int (2 : Int32)), .val (.ref b1), .val (.int (1 : Int32)), .val (.int (0 : Int32)), .val (.int (0 : Int32)), .unset] [])) _
                refine XS.iload X32.here hx rfl (hb hby at_189) rfl ?_
                show Steps p.tables e below (T32.setTop (mkF m 191 #[.val (.long q1), .second, .val (.int p2), .val (.int (2 : Int32)), .val (.ref b1), .val (.int (1 : Int32)), .val (.int (0 : Int32)), .val (.int (0 : Int32)), .unset] [(.int (0 : Int32))])) _
                refine XS.ifNo X32.here hx rfl (hb hby at_191) rfl ((if0 _ _).trans (teq (by decide : (0 : Int32) = (0 : Int32))).2) ?_
                show Steps p.tables e below (T32.setTop (mkF m 194 #[.val (.long q1), .second, .val (.int p2), .val (.int (2 : Int32)), .val (.ref b1), .val (.int (1 : Int32)), .val (.int (0 : Int32)), .val (.int (0 : Int32)), .unset] [])) _
                refine XS.iconst X32.here hx rfl (hb hby at_194) ?_
                show Steps p.tables e below (T32.setTop (mkF m 195 #[.val (.long q1), .second, .val (.int p2), .val (.int (2 : Int32)), .val (.ref b1), .val (.int (1 : Int32)), .val (.int (0 : Int32)), .val (.int (0 : Int32)), .unset] [(.int (2 : Int32))])) _
                refine XS.istore X32.here hx rfl (hb hby at_195) rfl (l' := #[.val (.long q1), .second, .val (.int p2), .val (.int (2 : Int32)), .val (.ref b1), .val (.int (1 : Int32)), .val (.int (0 : Int32)), .val (.int (0 : Int32)), .val (.int (2 : Int32))]) rfl ?_
                show Steps p.tables e below (T32.setTop (mkF m 197 #[.val (.long q1), .second, .val (.int p2), .val (.int (2 : Int32)), .val (.ref b1), .val (.int (1 : Int32)), .val (.int (0 : Int32)), .val (.int (0 : Int32)), .val (.int (2 : Int32))] [])) _
                refine XS.goto X32.here hx rfl (pc0 := 197) (pc' := 214) rfl (hb hby at_197) (by decide) (by decide) ?_
                show Steps p.tables e below (T32.setTop (mkF m 214 #[.val (.long q1), .second, .val (.int p2), .val (.int (2 : Int32)), .val (.ref b1), .val (.int (1 : Int32)), .val (.int (0 : Int32)), .val (.int (0 : Int32)), .val (.int (2 : Int32))] [])) _
                refine XS.aload X32.here hx rfl (hb hby at_214) rfl rfl ?_
                show Steps p.tables e below (T32.setTop (mkF m 216 #[.val (.long q1), .second, .val (.int p2), .val (.int (2 : Int32)), .val (.ref b1), .val (.int (1 : Int32)), .val (.int (0 : Int32)), .val (.int (0 : Int32)), .val (.int (2 : Int32))] [(.ref b1)])) _
                refine XS.iloadN X32.here hx rfl (hb hby at_216) rfl ?_
                show Steps p.tables e below (T32.setTop (mkF m 217 #[.val (.long q1), .second, .val (.int p2), .val (.int (2 : Int32)), .val (.ref b1), .val (.int (1 : Int32)), .val (.int (0 : Int32)), .val (.int (0 : Int32)), .val (.int (2 : Int32))] [(.int (2 : Int32)), (.ref b1)])) _
                refine st149 _ ?_
                show Steps p.tables e below (T149.setTop (mkF m 220 #[.val (.long q1), .second, .val (.int p2), .val (.int (2 : Int32)), .val (.ref b1), .val (.int (1 : Int32)), .val (.int (0 : Int32)), .val (.int (0 : Int32)), .val (.int (2 : Int32))] [(.int (own_v2_f1 (nar .byte (own_b2 q1)) (nar .byte (own_b3 q1)) (nar .byte (own_b4 q1))))])) _
                refine XS.iload X149.here hx rfl (hb hby at_220) rfl ?_
                exact kt
              by_cases hc44 : (own_v2_f1 (nar .byte (own_b2 q1)) (nar .byte (own_b3 q1)) (nar .byte (own_b4 q1))) = (2 : Int32)
              ·
                obtain ⟨fs, hr, hrun, hended, hW, hsame⟩ := X149.leave (v := some (.int (1 : Int32))) (fun h => by rw [Bd.returns] at h; cases h)
                refine ⟨_, _, k151 _ ?_, hrun, hended, _, _, rfl, ?_, ⟨_, rfl⟩, hW, hsame.mono (by decide) (by decide)⟩
                · show Steps p.tables e below (T149.setTop (mkF m 222 #[.val (.long q1), .second, .val (.int p2), .val (.int (2 : Int32)), .val (.ref b1), .val (.int (1 : Int32)), .val (.int (0 : Int32)), .val (.int (0 : Int32)), .val (.int (2 : Int32))] [(.int (2 : Int32)), (.int (own_v2_f1 (nar .byte (own_b2 q1)) (nar .byte (own_b3 q1)) (nar .byte (own_b4 q1))))])) _
                  refine XS.icmpNo X149.here hx rfl (hb hby at_222) rfl (teq hc44).2 ?_
                  show Steps p.tables e below (T149.setTop (mkF m 225 #[.val (.long q1), .second, .val (.int p2), .val (.int (2 : Int32)), .val (.ref b1), .val (.int (1 : Int32)), .val (.int (0 : Int32)), .val (.int (0 : Int32)), .val (.int (2 : Int32))] [])) _
                  refine XS.iconst X149.here hx rfl (hb hby at_225) ?_
                  show Steps p.tables e below (T149.setTop (mkF m 226 #[.val (.long q1), .second, .val (.int p2), .val (.int (2 : Int32)), .val (.ref b1), .val (.int (1 : Int32)), .val (.int (0 : Int32)), .val (.int (0 : Int32)), .val (.int (2 : Int32))] [(.int (1 : Int32))])) _
                  refine XS.goto X149.here hx rfl (pc0 := 226) (pc' := 230) rfl (hb hby at_226) (by decide) (by decide) ?_
                  show Steps p.tables e below (T149.setTop (mkF m 230 #[.val (.long q1), .second, .val (.int p2), .val (.int (2 : Int32)), .val (.ref b1), .val (.int (1 : Int32)), .val (.int (0 : Int32)), .val (.int (0 : Int32)), .val (.int (2 : Int32))] [(.int (1 : Int32))])) _
                  exact retN X149 hx (t := .boolean) Bd.returns (by simp) (hb hby at_230) hr
                · show own_Q0 Z q1 p2 h0 n0 _ T149.heap _
                  rw [e149]
                  exact ⟨(by rw [own_f0, if_neg hc1, if_neg hc17, if_pos hc33, if_neg hc34, if_pos hc42, if_pos hc43, if_pos hc44]), N150⟩
              ·
                obtain ⟨fs, hr, hrun, hended, hW, hsame⟩ := X149.leave (v := some (.int (0 : Int32))) (fun h => by rw [Bd.returns] at h; cases h)
                refine ⟨_, _, k151 _ ?_, hrun, hended, _, _, rfl, ?_, ⟨_, rfl⟩, hW, hsame.mono (by decide) (by decide)⟩
                · show Steps p.tables e below (T149.setTop (mkF m 222 #[.val (.long q1), .second, .val (.int p2), .val (.int (2 : Int32)), .val (.ref b1), .val (.int (1 : Int32)), .val (.int (0 : Int32)), .val (.int (0 : Int32)), .val (.int (2 : Int32))] [(.int (2 : Int32)), (.int (own_v2_f1 (nar .byte (own_b2 q1)) (nar .byte (own_b3 q1)) (nar .byte (own_b4 q1))))])) _
                  refine XS.icmpYes X149.here hx rfl (pc0 := 222) (pc' := 229) rfl (hb hby at_222) rfl (feq hc44).2 (by decide) (by decide) ?_
                  show Steps p.tables e below (T149.setTop (mkF m 229 #[.val (.long q1), .second, .val (.int p2), .val (.int (2 : Int32)), .val (.ref b1), .val (.int (1 : Int32)), .val (.int (0 : Int32)), .val (.int (0 : Int32)), .val (.int (2 : Int32))] [])) _
                  refine XS.iconst X149.here hx rfl (hb hby at_229) ?_
                  show Steps p.tables e below (T149.setTop (mkF m 230 #[.val (.long q1), .second, .val (.int p2), .val (.int (2 : Int32)), .val (.ref b1), .val (.int (1 : Int32)), .val (.int (0 : Int32)), .val (.int (0 : Int32)), .val (.int (2 : Int32))] [(.int (0 : Int32))])) _
                  exact retN X149 hx (t := .boolean) Bd.returns (by simp) (hb hby at_230) hr
                · show own_Q0 Z q1 p2 h0 n0 _ T149.heap _
                  rw [e149]
                  exact ⟨(by rw [own_f0, if_neg hc1, if_neg hc17, if_pos hc33, if_neg hc34, if_pos hc42, if_pos hc43, if_neg hc44]), N150⟩
            ·
              obtain ⟨v152, _, ⟨T152, L152, k152, n152⟩, -, X152, ⟨Lc152, hQ152, l152, y152, z152⟩, st152⟩ := Jvm.LawKit.callS X32 hx (y := (⟨"com/example/castd/castd/mqtt/VariableByteInteger", "length", "([BI)I"⟩ : MethodName)) hown (mvT hZ (hw _ (List.mem_of_getElem? (i := 1) rfl))) (mvT hZ (hw _ (List.mem_of_getElem? (i := 2) rfl))) (mvT hZ (hw _ (List.mem_of_getElem? (i := 3) rfl))) (mvT hZ (hw _ (List.mem_of_getElem? (i := 4) rfl))) (by decide) (backOf (W := 0) (own_v2_rm1 l Z a0 hw [] b1 k1 (nar .byte (own_b0 q1)) (nar .byte (own_b1 q1)) (nar .byte (own_b2 q1)) (nar .byte (own_b3 q1)) (nar .byte (own_b4 q1)) (nar .byte (own_b5 q1)) (nar .byte (own_b6 q1)) (nar .byte (own_b7 q1)) h32 n0 Z34 V_b1_32 (by intro h1 h2 h3; first | contradiction | exact own_clr _)) hZ (hw _ (List.mem_of_getElem? (i := 4) rfl)) (hw _ (List.mem_of_getElem? (i := 3) rfl)) (by decide) (by decide)) (g := (mkF m 217 #[.val (.long q1), .second, .val (.int p2), .val (.int (2 : Int32)), .val (.ref b1), .val (.int (1 : Int32)), .val (.int (0 : Int32)), .val (.int (1 : Int32)), .val (.int (2 : Int32))] [(.int (2 : Int32)), (.ref b1)])) rfl (by rw [hml]; rfl) (argsL := [(.ref b1), (.int (2 : Int32))]) (rest := []) (lenOf own_pd25 rfl) rfl (by show 2 * 0 + _ ≤ _; exact Nat.le_of_eq rfl) (hb hby at_217) (fun _ _ => ⟨rfl, e32, (by decide : 1 + 0 ≤ _), (by decide : 8 + 0 ≤ _)⟩)
              dsimp only [Pt.U, Pt.locs, Pt.cells, Pt.slots] at X152 l152 y152 z152 st152 hQ152
              subst l152 y152 z152
              obtain ⟨rfl, N152q, e152⟩ := hQ152
              have N153 := Fr.app N33 N152q
              have k154 : ∀ t, Steps p.tables e below (T152.setTop (mkF m 222 #[.val (.long q1), .second, .val (.int p2), .val (.int (2 : Int32)), .val (.ref b1), .val (.int (1 : Int32)), .val (.int (0 : Int32)), .val (.int (1 : Int32)), .val (.int (2 : Int32))] [(.int (2 : Int32)), (.int (own_v2_f1 (nar .byte (own_b2 q1)) (nar .byte (own_b3 q1)) (nar .byte (own_b4 q1))))])) t → Steps p.tables e below (s₁.setTop (entryFrame m #[(.long q1), (.int p2)] maxLocals)) t := by
                intro t kt
                refine k148 t ?_
                show Steps p.tables e below (T32.setTop (mkF m 137 #[.val (.long q1), .second, .val (.int p2), .val (.int (2 : Int32)), .val (.ref b1), .val (.int (1 : Int32)), .val (.int (0 : Int32)), .unset, .unset] [(.int ((nar .byte (own_b4 q1)) &&& (128 : Int32)))])) _
                refine XS.ifNo X32.here hx rfl (hb hby at_137) rfl ((if0 _ _).trans (feq hc43).1) ?_
                show Steps p.tables e below (T32.setTop (mkF m 140 #[.val (.long q1), .second, .val (.int p2), .val (.int (2 : Int32)), .val (.ref b1), .val (.int (1 : Int32)), .val (.int (0 : Int32)), .unset, .unset] [])) _
                refine XS.iconst X32.here hx rfl (hb hby at_140) ?_
                show Steps p.tables e below (T32.setTop (mkF m 141 #[.val (.long q1), .second, .val (.int p2), .val (.int (2 : Int32)), .val (.ref b1), .val (.int (1 : Int32)), .val (.int (0 : Int32)), .unset, .unset] [(.int (1 : Int32))])) _
                refine XS.goto X32.here hx rfl (pc0 := 141) (pc' := 145) rfl (hb hby at_141) (by decide) (by decide) ?_
                show Steps p.tables e below (T32.setTop (mkF m 145 #[.val (.long q1), .second, .val (.int p2), .val (.int (2 : Int32)), .val (.ref b1), .val (.int (1 : Int32)), .val (.int (0 : Int32)), .unset, .unset] [(.int (1 : Int32))])) _
                refine XS.istore X32.here hx rfl (hb hby at_145) rfl (l' := #[.val (.long q1), .second, .val (.int p2), .val (.int (2 : Int32)), .val (.ref b1), .val (.int (1 : Int32)), .val (.int (0 : Int32)), .val (.int (1 : Int32)), .unset]) rfl ?_
                show Steps p.tables e below (T32.setTop (mkF m 147 #[.val (.long q1), .second, .val (.int p2), .val (.int (2 : Int32)), .val (.ref b1), .val (.int (1 : Int32)), .val (.int (0 : Int32)), .val (.int (1 : Int32)), .unset] [])) _
                refine XS.iload X32.here hx rfl (hb hby at_147) rfl ?_
                show Steps p.tables e below (T32.setTop (mkF m 149 #[.val (.long q1), .second, .val (.int p2), .val (.int (2 : Int32)), .val (.ref b1), .val (.int (1 : Int32)), .val (.int (0 : Int32)), .val (.int (1 : Int32)), .unset] [(.int (1 : Int32))])) _
                refine XS.ifNo X32.here hx rfl (hb hby at_149) rfl ((if0 _ _).trans (feq (by decide : ¬ ((1 : Int32) = (0 : Int32)))).1) ?_
                show Steps p.tables e below (T32.setTop (mkF m 152 #[.val (.long q1), .second, .val (.int p2), .val (.int (2 : Int32)), .val (.ref b1), .val (.int (1 : Int32)), .val (.int (0 : Int32)), .val (.int (1 : Int32)), .unset] [])) _
                refine XS.iload X32.here hx rfl (hb hby at_152) rfl ?_
                show Steps p.tables e below (T32.setTop (mkF m 154 #[.val (.long q1), .second, .val (.int p2), .val (.int (2 : Int32)), .val (.ref b1), .val (.int (1 : Int32)), .val (.int (0 : Int32)), .val (.int (1 : Int32)), .unset] [(.int (0 : Int32))])) _
                refine XS.ifYes X32.here hx rfl (pc0 := 154) (pc' := 178) rfl (hb hby at_154) rfl ((if0 _ _).trans (teq (by decide : (0 : Int32) = (0 : Int32))).1) (by decide) (by decide) ?_
                show Steps p.tables e below (T32.setTop (mkF m 178 #[.val (.long q1), .second, .val (.int p2), .val (.int (2 : Int32)), .val (.ref b1), .val (.int (1 : Int32)), .val (.int (0 : Int32)), .val (.int (1 : Int32)), .unset] [])) _
                refine XS.iload X32.here hx rfl (hb hby at_178) rfl ?_
                show Steps p.tables e below (T32.setTop (mkF m 180 #[.val (.long q1), .second, .val (.int p2), .val (.int (2 : Int32)), .val (.ref b1), .val (.int (1 : Int32)), .val (.int (0 : Int32)), .val (.int (1 : Int32)), .unset] [(.int (1 : Int32))])) _
                refine XS.ifYes X32.here hx rfl (pc0 := 180) (pc' := 189) rfl (hb hby at_180) rfl ((if0 _ _).trans (feq (by decide : ¬ ((1 : Int32) = (0 : Int32)))).2) (by decide) (by decide) ?_
                show Steps p.tables e below (T32.setTop (mkF m 189 #[.val (.long q1), .second, .val (.int p2), .val (.int (2 : Int32)), .val (.ref b1), .val (.int (1 : Int32)), .val (.int (0 : Int32)), .val (.int (1 : Int32)), .unset] [])) _
                refine XS.iload X32.here hx rfl (hb hby at_189) rfl ?_
                show Steps p.tables e below (T32.setTop (mkF m 191 #[.val (.long q1), .second, .val (.int p2), .val (.int (2 : Int32)), .val (.ref b1), .val (.int (1 : Int32)), .val (.int (0 : Int32)), .val (.int (1 : Int32)), .unset] [(.int (0 : Int32))])) _
                refine XS.ifNo X32.here hx rfl (hb hby at_191) rfl ((if0 _ _).trans (teq (by decide : (0 : Int32) = (0 : Int32))).2) ?_
                show Steps p.tables e below (T32.setTop (mkF m 194 #[.val (.long q1), .second, .val (.int p2), .val (.int (2 : Int32)), .val (.ref b1), .val (.int (1 : Int32)), .val (.int (0 : Int32)), .val (.int (1 : Int32)), .unset] [])) _
                refine XS.iconst X32.here hx rfl (hb hby at_194) ?_
                show Steps p.tables e below (T32.setTop (mkF m 195 #[.val (.long q1), .second, .val (.int p2), .val (.int (2 : Int32)), .val (.ref b1), .val (.int (1 : Int32)), .val (.int (0 : Int32)), .val (.int (1 : Int32)), .unset] [(.int (2 : Int32))])) _
                refine XS.istore X32.here hx rfl (hb hby at_195) rfl (l' := #[.val (.long q1), .second, .val (.int p2), .val (.int (2 : Int32)), .val (.ref b1), .val (.int (1 : Int32)), .val (.int (0 : Int32)), .val (.int (1 : Int32)), .val (.int (2 : Int32))]) rfl ?_
                show Steps p.tables e below (T32.setTop (mkF m 197 #[.val (.long q1), .second, .val (.int p2), .val (.int (2 : Int32)), .val (.ref b1), .val (.int (1 : Int32)), .val (.int (0 : Int32)), .val (.int (1 : Int32)), .val (.int (2 : Int32))] [])) _
                refine XS.goto X32.here hx rfl (pc0 := 197) (pc' := 214) rfl (hb hby at_197) (by decide) (by decide) ?_
                show Steps p.tables e below (T32.setTop (mkF m 214 #[.val (.long q1), .second, .val (.int p2), .val (.int (2 : Int32)), .val (.ref b1), .val (.int (1 : Int32)), .val (.int (0 : Int32)), .val (.int (1 : Int32)), .val (.int (2 : Int32))] [])) _
                refine XS.aload X32.here hx rfl (hb hby at_214) rfl rfl ?_
                show Steps p.tables e below (T32.setTop (mkF m 216 #[.val (.long q1), .second, .val (.int p2), .val (.int (2 : Int32)), .val (.ref b1), .val (.int (1 : Int32)), .val (.int (0 : Int32)), .val (.int (1 : Int32)), .val (.int (2 : Int32))] [(.ref b1)])) _
                refine XS.iloadN X32.here hx rfl (hb hby at_216) rfl ?_
                show Steps p.tables e below (T32.setTop (mkF m 217 #[.val (.long q1), .second, .val (.int p2), .val (.int (2 : Int32)), .val (.ref b1), .val (.int (1 : Int32)), .val (.int (0 : Int32)), .val (.int (1 : Int32)), .val (.int (2 : Int32))] [(.int (2 : Int32)), (.ref b1)])) _
                refine st152 _ ?_
                show Steps p.tables e below (T152.setTop (mkF m 220 #[.val (.long q1), .second, .val (.int p2), .val (.int (2 : Int32)), .val (.ref b1), .val (.int (1 : Int32)), .val (.int (0 : Int32)), .val (.int (1 : Int32)), .val (.int (2 : Int32))] [(.int (own_v2_f1 (nar .byte (own_b2 q1)) (nar .byte (own_b3 q1)) (nar .byte (own_b4 q1))))])) _
                refine XS.iload X152.here hx rfl (hb hby at_220) rfl ?_
                exact kt
              by_cases hc45 : (own_v2_f1 (nar .byte (own_b2 q1)) (nar .byte (own_b3 q1)) (nar .byte (own_b4 q1))) = (2 : Int32)
              ·
                obtain ⟨fs, hr, hrun, hended, hW, hsame⟩ := X152.leave (v := some (.int (1 : Int32))) (fun h => by rw [Bd.returns] at h; cases h)
                refine ⟨_, _, k154 _ ?_, hrun, hended, _, _, rfl, ?_, ⟨_, rfl⟩, hW, hsame.mono (by decide) (by decide)⟩
                · show Steps p.tables e below (T152.setTop (mkF m 222 #[.val (.long q1), .second, .val (.int p2), .val (.int (2 : Int32)), .val (.ref b1), .val (.int (1 : Int32)), .val (.int (0 : Int32)), .val (.int (1 : Int32)), .val (.int (2 : Int32))] [(.int (2 : Int32)), (.int (own_v2_f1 (nar .byte (own_b2 q1)) (nar .byte (own_b3 q1)) (nar .byte (own_b4 q1))))])) _
                  refine XS.icmpNo X152.here hx rfl (hb hby at_222) rfl (teq hc45).2 ?_
                  show Steps p.tables e below (T152.setTop (mkF m 225 #[.val (.long q1), .second, .val (.int p2), .val (.int (2 : Int32)), .val (.ref b1), .val (.int (1 : Int32)), .val (.int (0 : Int32)), .val (.int (1 : Int32)), .val (.int (2 : Int32))] [])) _
                  refine XS.iconst X152.here hx rfl (hb hby at_225) ?_
                  show Steps p.tables e below (T152.setTop (mkF m 226 #[.val (.long q1), .second, .val (.int p2), .val (.int (2 : Int32)), .val (.ref b1), .val (.int (1 : Int32)), .val (.int (0 : Int32)), .val (.int (1 : Int32)), .val (.int (2 : Int32))] [(.int (1 : Int32))])) _
                  refine XS.goto X152.here hx rfl (pc0 := 226) (pc' := 230) rfl (hb hby at_226) (by decide) (by decide) ?_
                  show Steps p.tables e below (T152.setTop (mkF m 230 #[.val (.long q1), .second, .val (.int p2), .val (.int (2 : Int32)), .val (.ref b1), .val (.int (1 : Int32)), .val (.int (0 : Int32)), .val (.int (1 : Int32)), .val (.int (2 : Int32))] [(.int (1 : Int32))])) _
                  exact retN X152 hx (t := .boolean) Bd.returns (by simp) (hb hby at_230) hr
                · show own_Q0 Z q1 p2 h0 n0 _ T152.heap _
                  rw [e152]
                  exact ⟨(by rw [own_f0, if_neg hc1, if_neg hc17, if_pos hc33, if_neg hc34, if_pos hc42, if_neg hc43, if_pos hc45]), N153⟩
              ·
                obtain ⟨fs, hr, hrun, hended, hW, hsame⟩ := X152.leave (v := some (.int (0 : Int32))) (fun h => by rw [Bd.returns] at h; cases h)
                refine ⟨_, _, k154 _ ?_, hrun, hended, _, _, rfl, ?_, ⟨_, rfl⟩, hW, hsame.mono (by decide) (by decide)⟩
                · show Steps p.tables e below (T152.setTop (mkF m 222 #[.val (.long q1), .second, .val (.int p2), .val (.int (2 : Int32)), .val (.ref b1), .val (.int (1 : Int32)), .val (.int (0 : Int32)), .val (.int (1 : Int32)), .val (.int (2 : Int32))] [(.int (2 : Int32)), (.int (own_v2_f1 (nar .byte (own_b2 q1)) (nar .byte (own_b3 q1)) (nar .byte (own_b4 q1))))])) _
                  refine XS.icmpYes X152.here hx rfl (pc0 := 222) (pc' := 229) rfl (hb hby at_222) rfl (feq hc45).2 (by decide) (by decide) ?_
                  show Steps p.tables e below (T152.setTop (mkF m 229 #[.val (.long q1), .second, .val (.int p2), .val (.int (2 : Int32)), .val (.ref b1), .val (.int (1 : Int32)), .val (.int (0 : Int32)), .val (.int (1 : Int32)), .val (.int (2 : Int32))] [])) _
                  refine XS.iconst X152.here hx rfl (hb hby at_229) ?_
                  show Steps p.tables e below (T152.setTop (mkF m 230 #[.val (.long q1), .second, .val (.int p2), .val (.int (2 : Int32)), .val (.ref b1), .val (.int (1 : Int32)), .val (.int (0 : Int32)), .val (.int (1 : Int32)), .val (.int (2 : Int32))] [(.int (0 : Int32))])) _
                  exact retN X152 hx (t := .boolean) Bd.returns (by simp) (hb hby at_230) hr
                · show own_Q0 Z q1 p2 h0 n0 _ T152.heap _
                  rw [e152]
                  exact ⟨(by rw [own_f0, if_neg hc1, if_neg hc17, if_pos hc33, if_neg hc34, if_pos hc42, if_neg hc43, if_neg hc45]), N153⟩
          ·
            obtain ⟨cl155, Ar155, qk155, Sz155, Nn155, Hs155, Gf155⟩ := id V_b1_32
            have hin155 : ¬ ((4 : Int32) < 0 ∨ cl155.slots.size ≤ ((4 : Int32)).toNatClampNeg) := inb_of Sz155 ⟨by decide, by decide⟩
            have hat155 : cl155.slots[((4 : Int32)).toNatClampNeg]? = some (.int (nar .byte (own_b4 q1))) := Has.at Hs155 hin155 rfl
            have k156 : ∀ t, Steps p.tables e below (T32.setTop (mkF m 137 #[.val (.long q1), .second, .val (.int p2), .val (.int (2 : Int32)), .val (.ref b1), .val (.int (1 : Int32)), .val (.int (1 : Int32)), .unset, .unset] [(.int ((nar .byte (own_b4 q1)) &&& (128 : Int32)))])) t → Steps p.tables e below (s₁.setTop (entryFrame m #[(.long q1), (.int p2)] maxLocals)) t := by
              intro t kt
              refine k146 t ?_
              show Steps p.tables e below (T32.setTop (mkF m 117 #[.val (.long q1), .second, .val (.int p2), .val (.int (2 : Int32)), .val (.ref b1), .val (.int (1 : Int32)), .unset, .unset, .unset] [(.int ((nar .byte (own_b3 q1)) &&& (128 : Int32)))])) _
              refine XS.ifNo X32.here hx rfl (hb hby at_117) rfl ((if0 _ _).trans (feq hc42).1) ?_
              show Steps p.tables e below (T32.setTop (mkF m 120 #[.val (.long q1), .second, .val (.int p2), .val (.int (2 : Int32)), .val (.ref b1), .val (.int (1 : Int32)), .unset, .unset, .unset] [])) _
              refine XS.iconst X32.here hx rfl (hb hby at_120) ?_
              show Steps p.tables e below (T32.setTop (mkF m 121 #[.val (.long q1), .second, .val (.int p2), .val (.int (2 : Int32)), .val (.ref b1), .val (.int (1 : Int32)), .unset, .unset, .unset] [(.int (1 : Int32))])) _
              refine XS.goto X32.here hx rfl (pc0 := 121) (pc' := 125) rfl (hb hby at_121) (by decide) (by decide) ?_
              show Steps p.tables e below (T32.setTop (mkF m 125 #[.val (.long q1), .second, .val (.int p2), .val (.int (2 : Int32)), .val (.ref b1), .val (.int (1 : Int32)), .unset, .unset, .unset] [(.int (1 : Int32))])) _
              refine XS.istore X32.here hx rfl (hb hby at_125) rfl (l' := #[.val (.long q1), .second, .val (.int p2), .val (.int (2 : Int32)), .val (.ref b1), .val (.int (1 : Int32)), .val (.int (1 : Int32)), .unset, .unset]) rfl ?_
              show Steps p.tables e below (T32.setTop (mkF m 127 #[.val (.long q1), .second, .val (.int p2), .val (.int (2 : Int32)), .val (.ref b1), .val (.int (1 : Int32)), .val (.int (1 : Int32)), .unset, .unset] [])) _
              refine XS.aload X32.here hx rfl (hb hby at_127) rfl rfl ?_
              show Steps p.tables e below (T32.setTop (mkF m 129 #[.val (.long q1), .second, .val (.int p2), .val (.int (2 : Int32)), .val (.ref b1), .val (.int (1 : Int32)), .val (.int (1 : Int32)), .unset, .unset] [(.ref b1)])) _
              refine XS.iloadN X32.here hx rfl (hb hby at_129) rfl ?_
              show Steps p.tables e below (T32.setTop (mkF m 130 #[.val (.long q1), .second, .val (.int p2), .val (.int (2 : Int32)), .val (.ref b1), .val (.int (1 : Int32)), .val (.int (1 : Int32)), .unset, .unset] [(.int (2 : Int32)), (.ref b1)])) _
              refine XS.iconst X32.here hx rfl (hb hby at_130) ?_
              show Steps p.tables e below (T32.setTop (mkF m 131 #[.val (.long q1), .second, .val (.int p2), .val (.int (2 : Int32)), .val (.ref b1), .val (.int (1 : Int32)), .val (.int (1 : Int32)), .unset, .unset] [(.int (2 : Int32)), (.int (2 : Int32)), (.ref b1)])) _
              refine XS.iadd X32.here hx rfl (hb hby at_131) rfl ?_
              show Steps p.tables e below (T32.setTop (mkF m 132 #[.val (.long q1), .second, .val (.int p2), .val (.int (2 : Int32)), .val (.ref b1), .val (.int (1 : Int32)), .val (.int (1 : Int32)), .unset, .unset] [(.int (4 : Int32)), (.ref b1)])) _
              refine X32.baloadBytes hx (j := (4 : Int32)) (v := (.int (nar .byte (own_b4 q1)))) (by rw [e32]; exact Ar155.1) (State.isArrayOf_alike hZ.alike Ar155.2.1) Ar155.2.2 hin155 hat155 (g := (mkF m 132 #[.val (.long q1), .second, .val (.int p2), .val (.int (2 : Int32)), .val (.ref b1), .val (.int (1 : Int32)), .val (.int (1 : Int32)), .unset, .unset] [(.int (4 : Int32)), (.ref b1)])) rfl rfl (hb hby at_132) _ ?_
              show Steps p.tables e below (T32.setTop (mkF m 133 #[.val (.long q1), .second, .val (.int p2), .val (.int (2 : Int32)), .val (.ref b1), .val (.int (1 : Int32)), .val (.int (1 : Int32)), .unset, .unset] [(.int (nar .byte (own_b4 q1)))])) _
              refine XS.sipush X32.here hx rfl (hb hby at_133) ?_
              show Steps p.tables e below (T32.setTop (mkF m 136 #[.val (.long q1), .second, .val (.int p2), .val (.int (2 : Int32)), .val (.ref b1), .val (.int (1 : Int32)), .val (.int (1 : Int32)), .unset, .unset] [(.int (128 : Int32)), (.int (nar .byte (own_b4 q1)))])) _
              refine XS.iand X32.here hx rfl (hb hby at_136) rfl ?_
              exact kt
            by_cases hc46 : ((nar .byte (own_b4 q1)) &&& (128 : Int32)) = (0 : Int32)
            ·
              obtain ⟨v157, _, ⟨T157, L157, k157, n157⟩, -, X157, ⟨Lc157, hQ157, l157, y157, z157⟩, st157⟩ := Jvm.LawKit.callS X32 hx (y := (⟨"com/example/castd/castd/mqtt/VariableByteInteger", "length", "([BI)I"⟩ : MethodName)) hown (mvT hZ (hw _ (List.mem_of_getElem? (i := 1) rfl))) (mvT hZ (hw _ (List.mem_of_getElem? (i := 2) rfl))) (mvT hZ (hw _ (List.mem_of_getElem? (i := 3) rfl))) (mvT hZ (hw _ (List.mem_of_getElem? (i := 4) rfl))) (by decide) (backOf (W := 0) (own_v2_rm1 l Z a0 hw [] b1 k1 (nar .byte (own_b0 q1)) (nar .byte (own_b1 q1)) (nar .byte (own_b2 q1)) (nar .byte (own_b3 q1)) (nar .byte (own_b4 q1)) (nar .byte (own_b5 q1)) (nar .byte (own_b6 q1)) (nar .byte (own_b7 q1)) h32 n0 Z34 V_b1_32 (by intro h1 h2 h3; first | contradiction | exact own_clr _)) hZ (hw _ (List.mem_of_getElem? (i := 4) rfl)) (hw _ (List.mem_of_getElem? (i := 3) rfl)) (by decide) (by decide)) (g := (mkF m 217 #[.val (.long q1), .second, .val (.int p2), .val (.int (2 : Int32)), .val (.ref b1), .val (.int (1 : Int32)), .val (.int (1 : Int32)), .val (.int (0 : Int32)), .val (.int (3 : Int32))] [(.int (2 : Int32)), (.ref b1)])) rfl (by rw [hml]; rfl) (argsL := [(.ref b1), (.int (2 : Int32))]) (rest := []) (lenOf own_pd25 rfl) rfl (by show 2 * 0 + _ ≤ _; exact Nat.le_of_eq rfl) (hb hby at_217) (fun _ _ => ⟨rfl, e32, (by decide : 1 + 0 ≤ _), (by decide : 8 + 0 ≤ _)⟩)
              dsimp only [Pt.U, Pt.locs, Pt.cells, Pt.slots] at X157 l157 y157 z157 st157 hQ157
              subst l157 y157 z157
              obtain ⟨rfl, N157q, e157⟩ := hQ157
              have N158 := Fr.app N33 N157q
              have k159 : ∀ t, Steps p.tables e below (T157.setTop (mkF m 222 #[.val (.long q1), .second, .val (.int p2), .val (.int (2 : Int32)), .val (.ref b1), .val (.int (1 : Int32)), .val (.int (1 : Int32)), .val (.int (0 : Int32)), .val (.int (3 : Int32))] [(.int (3 : Int32)), (.int (own_v2_f1 (nar .byte (own_b2 q1)) (nar .byte (own_b3 q1)) (nar .byte (own_b4 q1))))])) t → Steps p.tables e below (s₁.setTop (entryFrame m #[(.long q1), (.int p2)] maxLocals)) t := by
                intro t kt
                refine k156 t ?_
                show Steps p.tables e below (T32.setTop (mkF m 137 #[.val (.long q1), .second, .val (.int p2), .val (.int (2 : Int32)), .val (.ref b1), .val (.int (1 : Int32)), .val (.int (1 : Int32)), .unset, .unset] [(.int ((nar .byte (own_b4 q1)) &&& (128 : Int32)))])) _
                refine XS.ifYes X32.here hx rfl (pc0 := 137) (pc' := 144) rfl (hb hby at_137) rfl ((if0 _ _).trans (teq hc46).1) (by decide) (by decide) ?_
                show Steps p.tables e below (T32.setTop (mkF m 144 #[.val (.long q1), .second, .val (.int p2), .val (.int (2 : Int32)), .val (.ref b1), .val (.int (1 : Int32)), .val (.int (1 : Int32)), .unset, .unset] [])) _
                refine XS.iconst X32.here hx rfl (hb hby at_144) ?_
                show Steps p.tables e below (T32.setTop (mkF m 145 #[.val (.long q1), .second, .val (.int p2), .val (.int (2 : Int32)), .val (.ref b1), .val (.int (1 : Int32)), .val (.int (1 : Int32)), .unset, .unset] [(.int (0 : Int32))])) _
                refine XS.istore X32.here hx rfl (hb hby at_145) rfl (l' := #[.val (.long q1), .second, .val (.int p2), .val (.int (2 : Int32)), .val (.ref b1), .val (.int (1 : Int32)), .val (.int (1 : Int32)), .val (.int (0 : Int32)), .unset]) rfl ?_
                show Steps p.tables e below (T32.setTop (mkF m 147 #[.val (.long q1), .second, .val (.int p2), .val (.int (2 : Int32)), .val (.ref b1), .val (.int (1 : Int32)), .val (.int (1 : Int32)), .val (.int (0 : Int32)), .unset] [])) _
                refine XS.iload X32.here hx rfl (hb hby at_147) rfl ?_
                show Steps p.tables e below (T32.setTop (mkF m 149 #[.val (.long q1), .second, .val (.int p2), .val (.int (2 : Int32)), .val (.ref b1), .val (.int (1 : Int32)), .val (.int (1 : Int32)), .val (.int (0 : Int32)), .unset] [(.int (1 : Int32))])) _
                refine XS.ifNo X32.here hx rfl (hb hby at_149) rfl ((if0 _ _).trans (feq (by decide : ¬ ((1 : Int32) = (0 : Int32)))).1) ?_
                show Steps p.tables e below (T32.setTop (mkF m 152 #[.val (.long q1), .second, .val (.int p2), .val (.int (2 : Int32)), .val (.ref b1), .val (.int (1 : Int32)), .val (.int (1 : Int32)), .val (.int (0 : Int32)), .unset] [])) _
                refine XS.iload X32.here hx rfl (hb hby at_152) rfl ?_
                show Steps p.tables e below (T32.setTop (mkF m 154 #[.val (.long q1), .second, .val (.int p2), .val (.int (2 : Int32)), .val (.ref b1), .val (.int (1 : Int32)), .val (.int (1 : Int32)), .val (.int (0 : Int32)), .unset] [(.int (1 : Int32))])) _
                refine XS.ifNo X32.here hx rfl (hb hby at_154) rfl ((if0 _ _).trans (feq (by decide : ¬ ((1 : Int32) = (0 : Int32)))).1) ?_
                show Steps p.tables e below (T32.setTop (mkF m 157 #[.val (.long q1), .second, .val (.int p2), .val (.int (2 : Int32)), .val (.ref b1), .val (.int (1 : Int32)), .val (.int (1 : Int32)), .val (.int (0 : Int32)), .unset] [])) _
                refine XS.iload X32.here hx rfl (hb hby at_157) rfl ?_
                show Steps p.tables e below (T32.setTop (mkF m 159 #[.val (.long q1), .second, .val (.int p2), .val (.int (2 : Int32)), .val (.ref b1), .val (.int (1 : Int32)), .val (.int (1 : Int32)), .val (.int (0 : Int32)), .unset] [(.int (0 : Int32))])) _
                refine XS.ifYes X32.here hx rfl (pc0 := 159) (pc' := 178) rfl (hb hby at_159) rfl ((if0 _ _).trans (teq (by decide : (0 : Int32) = (0 : Int32))).1) (by decide) (by decide) ?_
                show Steps p.tables e below (T32.setTop (mkF m 178 #[.val (.long q1), .second, .val (.int p2), .val (.int (2 : Int32)), .val (.ref b1), .val (.int (1 : Int32)), .val (.int (1 : Int32)), .val (.int (0 : Int32)), .unset] [])) _
                refine XS.iload X32.here hx rfl (hb hby at_178) rfl ?_
                show Steps p.tables e below (T32.setTop (mkF m 180 #[.val (.long q1), .second, .val (.int p2), .val (.int (2 : Int32)), .val (.ref b1), .val (.int (1 : Int32)), .val (.int (1 : Int32)), .val (.int (0 : Int32)), .unset] [(.int (1 : Int32))])) _
                refine XS.ifYes X32.here hx rfl (pc0 := 180) (pc' := 189) rfl (hb hby at_180) rfl ((if0 _ _).trans (feq (by decide : ¬ ((1 : Int32) = (0 : Int32)))).2) (by decide) (by decide) ?_
                show Steps p.tables e below (T32.setTop (mkF m 189 #[.val (.long q1), .second, .val (.int p2), .val (.int (2 : Int32)), .val (.ref b1), .val (.int (1 : Int32)), .val (.int (1 : Int32)), .val (.int (0 : Int32)), .unset] [])) _
                refine XS.iload X32.here hx rfl (hb hby at_189) rfl ?_
                show Steps p.tables e below (T32.setTop (mkF m 191 #[.val (.long q1), .second, .val (.int p2), .val (.int (2 : Int32)), .val (.ref b1), .val (.int (1 : Int32)), .val (.int (1 : Int32)), .val (.int (0 : Int32)), .unset] [(.int (1 : Int32))])) _
                refine XS.ifYes X32.here hx rfl (pc0 := 191) (pc' := 200) rfl (hb hby at_191) rfl ((if0 _ _).trans (feq (by decide : ¬ ((1 : Int32) = (0 : Int32)))).2) (by decide) (by decide) ?_
                show Steps p.tables e below (T32.setTop (mkF m 200 #[.val (.long q1), .second, .val (.int p2), .val (.int (2 : Int32)), .val (.ref b1), .val (.int (1 : Int32)), .val (.int (1 : Int32)), .val (.int (0 : Int32)), .unset] [])) _
                refine XS.iload X32.here hx rfl (hb hby at_200) rfl ?_
                show Steps p.tables e below (T32.setTop (mkF m 202 #[.val (.long q1), .second, .val (.int p2), .val (.int (2 : Int32)), .val (.ref b1), .val (.int (1 : Int32)), .val (.int (1 : Int32)), .val (.int (0 : Int32)), .unset] [(.int (0 : Int32))])) _
                refine XS.ifNo X32.here hx rfl (hb hby at_202) rfl ((if0 _ _).trans (teq (by decide : (0 : Int32) = (0 : Int32))).2) ?_
                show Steps p.tables e below (T32.setTop (mkF m 205 #[.val (.long q1), .second, .val (.int p2), .val (.int (2 : Int32)), .val (.ref b1), .val (.int (1 : Int32)), .val (.int (1 : Int32)), .val (.int (0 : Int32)), .unset] [])) _
                refine XS.iconst X32.here hx rfl (hb hby at_205) ?_
                show Steps p.tables e below (T32.setTop (mkF m 206 #[.val (.long q1), .second, .val (.int p2), .val (.int (2 : Int32)), .val (.ref b1), .val (.int (1 : Int32)), .val (.int (1 : Int32)), .val (.int (0 : Int32)), .unset] [(.int (3 : Int32))])) _
                refine XS.istore X32.here hx rfl (hb hby at_206) rfl (l' := #[.val (.long q1), .second, .val (.int p2), .val (.int (2 : Int32)), .val (.ref b1), .val (.int (1 : Int32)), .val (.int (1 : Int32)), .val (.int (0 : Int32)), .val (.int (3 : Int32))]) rfl ?_
                show Steps p.tables e below (T32.setTop (mkF m 208 #[.val (.long q1), .second, .val (.int p2), .val (.int (2 : Int32)), .val (.ref b1), .val (.int (1 : Int32)), .val (.int (1 : Int32)), .val (.int (0 : Int32)), .val (.int (3 : Int32))] [])) _
                refine XS.goto X32.here hx rfl (pc0 := 208) (pc' := 214) rfl (hb hby at_208) (by decide) (by decide) ?_
                show Steps p.tables e below (T32.setTop (mkF m 214 #[.val (.long q1), .second, .val (.int p2), .val (.int (2 : Int32)), .val (.ref b1), .val (.int (1 : Int32)), .val (.int (1 : Int32)), .val (.int (0 : Int32)), .val (.int (3 : Int32))] [])) _
                refine XS.aload X32.here hx rfl (hb hby at_214) rfl rfl ?_
                show Steps p.tables e below (T32.setTop (mkF m 216 #[.val (.long q1), .second, .val (.int p2), .val (.int (2 : Int32)), .val (.ref b1), .val (.int (1 : Int32)), .val (.int (1 : Int32)), .val (.int (0 : Int32)), .val (.int (3 : Int32))] [(.ref b1)])) _
                refine XS.iloadN X32.here hx rfl (hb hby at_216) rfl ?_
                show Steps p.tables e below (T32.setTop (mkF m 217 #[.val (.long q1), .second, .val (.int p2), .val (.int (2 : Int32)), .val (.ref b1), .val (.int (1 : Int32)), .val (.int (1 : Int32)), .val (.int (0 : Int32)), .val (.int (3 : Int32))] [(.int (2 : Int32)), (.ref b1)])) _
                refine st157 _ ?_
                show Steps p.tables e below (T157.setTop (mkF m 220 #[.val (.long q1), .second, .val (.int p2), .val (.int (2 : Int32)), .val (.ref b1), .val (.int (1 : Int32)), .val (.int (1 : Int32)), .val (.int (0 : Int32)), .val (.int (3 : Int32))] [(.int (own_v2_f1 (nar .byte (own_b2 q1)) (nar .byte (own_b3 q1)) (nar .byte (own_b4 q1))))])) _
                refine XS.iload X157.here hx rfl (hb hby at_220) rfl ?_
                exact kt
              by_cases hc47 : (own_v2_f1 (nar .byte (own_b2 q1)) (nar .byte (own_b3 q1)) (nar .byte (own_b4 q1))) = (3 : Int32)
              ·
                obtain ⟨fs, hr, hrun, hended, hW, hsame⟩ := X157.leave (v := some (.int (1 : Int32))) (fun h => by rw [Bd.returns] at h; cases h)
                refine ⟨_, _, k159 _ ?_, hrun, hended, _, _, rfl, ?_, ⟨_, rfl⟩, hW, hsame.mono (by decide) (by decide)⟩
                · show Steps p.tables e below (T157.setTop (mkF m 222 #[.val (.long q1), .second, .val (.int p2), .val (.int (2 : Int32)), .val (.ref b1), .val (.int (1 : Int32)), .val (.int (1 : Int32)), .val (.int (0 : Int32)), .val (.int (3 : Int32))] [(.int (3 : Int32)), (.int (own_v2_f1 (nar .byte (own_b2 q1)) (nar .byte (own_b3 q1)) (nar .byte (own_b4 q1))))])) _
                  refine XS.icmpNo X157.here hx rfl (hb hby at_222) rfl (teq hc47).2 ?_
                  show Steps p.tables e below (T157.setTop (mkF m 225 #[.val (.long q1), .second, .val (.int p2), .val (.int (2 : Int32)), .val (.ref b1), .val (.int (1 : Int32)), .val (.int (1 : Int32)), .val (.int (0 : Int32)), .val (.int (3 : Int32))] [])) _
                  refine XS.iconst X157.here hx rfl (hb hby at_225) ?_
                  show Steps p.tables e below (T157.setTop (mkF m 226 #[.val (.long q1), .second, .val (.int p2), .val (.int (2 : Int32)), .val (.ref b1), .val (.int (1 : Int32)), .val (.int (1 : Int32)), .val (.int (0 : Int32)), .val (.int (3 : Int32))] [(.int (1 : Int32))])) _
                  refine XS.goto X157.here hx rfl (pc0 := 226) (pc' := 230) rfl (hb hby at_226) (by decide) (by decide) ?_
                  show Steps p.tables e below (T157.setTop (mkF m 230 #[.val (.long q1), .second, .val (.int p2), .val (.int (2 : Int32)), .val (.ref b1), .val (.int (1 : Int32)), .val (.int (1 : Int32)), .val (.int (0 : Int32)), .val (.int (3 : Int32))] [(.int (1 : Int32))])) _
                  exact retN X157 hx (t := .boolean) Bd.returns (by simp) (hb hby at_230) hr
                · show own_Q0 Z q1 p2 h0 n0 _ T157.heap _
                  rw [e157]
                  exact ⟨(by rw [own_f0, if_neg hc1, if_neg hc17, if_pos hc33, if_neg hc34, if_neg hc42, if_pos hc46, if_pos hc47]), N158⟩
              ·
                obtain ⟨fs, hr, hrun, hended, hW, hsame⟩ := X157.leave (v := some (.int (0 : Int32))) (fun h => by rw [Bd.returns] at h; cases h)
                refine ⟨_, _, k159 _ ?_, hrun, hended, _, _, rfl, ?_, ⟨_, rfl⟩, hW, hsame.mono (by decide) (by decide)⟩
                · show Steps p.tables e below (T157.setTop (mkF m 222 #[.val (.long q1), .second, .val (.int p2), .val (.int (2 : Int32)), .val (.ref b1), .val (.int (1 : Int32)), .val (.int (1 : Int32)), .val (.int (0 : Int32)), .val (.int (3 : Int32))] [(.int (3 : Int32)), (.int (own_v2_f1 (nar .byte (own_b2 q1)) (nar .byte (own_b3 q1)) (nar .byte (own_b4 q1))))])) _
                  refine XS.icmpYes X157.here hx rfl (pc0 := 222) (pc' := 229) rfl (hb hby at_222) rfl (feq hc47).2 (by decide) (by decide) ?_
                  show Steps p.tables e below (T157.setTop (mkF m 229 #[.val (.long q1), .second, .val (.int p2), .val (.int (2 : Int32)), .val (.ref b1), .val (.int (1 : Int32)), .val (.int (1 : Int32)), .val (.int (0 : Int32)), .val (.int (3 : Int32))] [])) _
                  refine XS.iconst X157.here hx rfl (hb hby at_229) ?_
                  show Steps p.tables e below (T157.setTop (mkF m 230 #[.val (.long q1), .second, .val (.int p2), .val (.int (2 : Int32)), .val (.ref b1), .val (.int (1 : Int32)), .val (.int (1 : Int32)), .val (.int (0 : Int32)), .val (.int (3 : Int32))] [(.int (0 : Int32))])) _
                  exact retN X157 hx (t := .boolean) Bd.returns (by simp) (hb hby at_230) hr
                · show own_Q0 Z q1 p2 h0 n0 _ T157.heap _
                  rw [e157]
                  exact ⟨(by rw [own_f0, if_neg hc1, if_neg hc17, if_pos hc33, if_neg hc34, if_neg hc42, if_pos hc46, if_neg hc47]), N158⟩
            ·
              obtain ⟨cl160, Ar160, qk160, Sz160, Nn160, Hs160, Gf160⟩ := id V_b1_32
              have hin160 : ¬ ((5 : Int32) < 0 ∨ cl160.slots.size ≤ ((5 : Int32)).toNatClampNeg) := inb_of Sz160 ⟨by decide, by decide⟩
              have hat160 : cl160.slots[((5 : Int32)).toNatClampNeg]? = some (.int (nar .byte (own_b5 q1))) := Has.at Hs160 hin160 rfl
              obtain ⟨cl161, Ar161, qk161, Sz161, Nn161, Hs161, Gf161⟩ := id V_b1_32
              have hin161 : ¬ ((5 : Int32) < 0 ∨ cl161.slots.size ≤ ((5 : Int32)).toNatClampNeg) := inb_of Sz161 ⟨by decide, by decide⟩
              obtain ⟨T162, h162, X162, e162, W162, st162⟩ := stB X32 hx hZ e32 Ar161 (j := (5 : Int32)) hin161 (g := (mkF m 177 #[.val (.long q1), .second, .val (.int p2), .val (.int (2 : Int32)), .val (.ref b1), .val (.int (1 : Int32)), .val (.int (1 : Int32)), .val (.int (1 : Int32)), .unset] [(.int (((nar .byte (own_b5 q1)) &&& (127 : Int32)).toInt8.toInt32)), (.int (5 : Int32)), (.ref b1)])) rfl rfl (hb hby at_177)
              have V_b1_162 : Arv Z h162 b1 k1 .byte (8 : Int32) [(.int (nar .byte (own_b0 q1))), (.int (nar .byte (own_b1 q1))), (.int (nar .byte (own_b2 q1))), (.int (nar .byte (own_b3 q1))), (.int (nar .byte (own_b4 q1))), (.int (nar .byte (((nar .byte (own_b5 q1)) &&& (127 : Int32)).toInt8.toInt32))), (.int (nar .byte (own_b6 q1))), (.int (nar .byte (own_b7 q1)))] (.int (0 : Int32)) := Arv.set Ar161 qk161 Sz161 Nn161 Hs161 Gf161 (fits_nar_byte _) W162 5 rfl (Nat.le_of_ble_eq_true rfl)
              have N163 := Fr.snoc X162 N33 g_b1
              have Z164 := Nat.le_trans Z34 (Keep.of_wr W162).1
              obtain ⟨v165, _, ⟨T165, L165, k165, n165⟩, -, X165, ⟨Lc165, hQ165, l165, y165, z165⟩, st165⟩ := Jvm.LawKit.callS X162 hx (y := (⟨"com/example/castd/castd/mqtt/VariableByteInteger", "length", "([BI)I"⟩ : MethodName)) hown (mvT hZ (hw _ (List.mem_of_getElem? (i := 1) rfl))) (mvT hZ (hw _ (List.mem_of_getElem? (i := 2) rfl))) (mvT hZ (hw _ (List.mem_of_getElem? (i := 3) rfl))) (mvT hZ (hw _ (List.mem_of_getElem? (i := 4) rfl))) (by decide) (backOf (W := 0) (own_v2_rm1 l Z a0 hw [] b1 k1 (nar .byte (own_b0 q1)) (nar .byte (own_b1 q1)) (nar .byte (own_b2 q1)) (nar .byte (own_b3 q1)) (nar .byte (own_b4 q1)) (nar .byte (((nar .byte (own_b5 q1)) &&& (127 : Int32)).toInt8.toInt32)) (nar .byte (own_b6 q1)) (nar .byte (own_b7 q1)) h162 n0 Z164 V_b1_162 (by intro h1 h2 h3; first | contradiction | exact own_clr _)) hZ (hw _ (List.mem_of_getElem? (i := 4) rfl)) (hw _ (List.mem_of_getElem? (i := 3) rfl)) (by decide) (by decide)) (g := (mkF m 217 #[.val (.long q1), .second, .val (.int p2), .val (.int (2 : Int32)), .val (.ref b1), .val (.int (1 : Int32)), .val (.int (1 : Int32)), .val (.int (1 : Int32)), .val (.int (4 : Int32))] [(.int (2 : Int32)), (.ref b1)])) rfl (by rw [hml]; rfl) (argsL := [(.ref b1), (.int (2 : Int32))]) (rest := []) (lenOf own_pd25 rfl) rfl (by show 2 * 0 + _ ≤ _; exact Nat.le_of_eq rfl) (hb hby at_217) (fun _ _ => ⟨rfl, e162, (by decide : 1 + 0 ≤ _), (by decide : 8 + 0 ≤ _)⟩)
              dsimp only [Pt.U, Pt.locs, Pt.cells, Pt.slots] at X165 l165 y165 z165 st165 hQ165
              subst l165 y165 z165
              obtain ⟨rfl, N165q, e165⟩ := hQ165
              have N166 := Fr.app N163 N165q
              have k167 : ∀ t, Steps p.tables e below (T165.setTop (mkF m 222 #[.val (.long q1), .second, .val (.int p2), .val (.int (2 : Int32)), .val (.ref b1), .val (.int (1 : Int32)), .val (.int (1 : Int32)), .val (.int (1 : Int32)), .val (.int (4 : Int32))] [(.int (4 : Int32)), (.int (own_v2_f1 (nar .byte (own_b2 q1)) (nar .byte (own_b3 q1)) (nar .byte (own_b4 q1))))])) t → Steps p.tables e below (s₁.setTop (entryFrame m #[(.long q1), (.int p2)] maxLocals)) t := by
                intro t kt
                refine k156 t ?_
                show Steps p.tables e below (T32.setTop (mkF m 137 #[.val (.long q1), .second, .val (.int p2), .val (.int (2 : Int32)), .val (.ref b1), .val (.int (1 : Int32)), .val (.int (1 : Int32)), .unset, .unset] [(.int ((nar .byte (own_b4 q1)) &&& (128 : Int32)))])) _
                refine XS.ifNo X32.here hx rfl (hb hby at_137) rfl ((if0 _ _).trans (feq hc46).1) ?_
                show Steps p.tables e below (T32.setTop (mkF m 140 #[.val (.long q1), .second, .val (.int p2), .val (.int (2 : Int32)), .val (.ref b1), .val (.int (1 : Int32)), .val (.int (1 : Int32)), .unset, .unset] [])) _
                refine XS.iconst X32.here hx rfl (hb hby at_140) ?_
                show Steps p.tables e below (T32.setTop (mkF m 141 #[.val (.long q1), .second, .val (.int p2), .val (.int (2 : Int32)), .val (.ref b1), .val (.int (1 : Int32)), .val (.int (1 : Int32)), .unset, .unset] [(.int (1 : Int32))])) _
                refine XS.goto X32.here hx rfl (pc0 := 141) (pc' := 145) rfl (hb hby at_141) (by decide) (by decide) ?_
                show Steps p.tables e below (T32.setTop (mkF m 145 #[.val (.long q1), .second, .val (.int p2), .val (.int (2 : Int32)), .val (.ref b1), .val (.int (1 : Int32)), .val (.int (1 : Int32)), .unset, .unset] [(.int (1 : Int32))])) _
                refine XS.istore X32.here hx rfl (hb hby at_145) rfl (l' := #[.val (.long q1), .second, .val (.int p2), .val (.int (2 : Int32)), .val (.ref b1), .val (.int (1 : Int32)), .val (.int (1 : Int32)), .val (.int (1 : Int32)), .unset]) rfl ?_
                show Steps p.tables e below (T32.setTop (mkF m 147 #[.val (.long q1), .second, .val (.int p2), .val (.int (2 : Int32)), .val (.ref b1), .val (.int (1 : Int32)), .val (.int (1 : Int32)), .val (.int (1 : Int32)), .unset] [])) _
                refine XS.iload X32.here hx rfl (hb hby at_147) rfl ?_
                show Steps p.tables e below (T32.setTop (mkF m 149 #[.val (.long q1), .second, .val (.int p2), .val (.int (2 : Int32)), .val (.ref b1), .val (.int (1 : Int32)), .val (.int (1 : Int32)), .val (.int (1 : Int32)), .unset] [(.int (1 : Int32))])) _
                refine XS.ifNo X32.here hx rfl (hb hby at_149) rfl ((if0 _ _).trans (feq (by decide : ¬ ((1 : Int32) = (0 : Int32)))).1) ?_
                show Steps p.tables e below (T32.setTop (mkF m 152 #[.val (.long q1), .second, .val (.int p2), .val (.int (2 : Int32)), .val (.ref b1), .val (.int (1 : Int32)), .val (.int (1 : Int32)), .val (.int (1 : Int32)), .unset] [])) _
                refine XS.iload X32.here hx rfl (hb hby at_152) rfl ?_
                show Steps p.tables e below (T32.setTop (mkF m 154 #[.val (.long q1), .second, .val (.int p2), .val (.int (2 : Int32)), .val (.ref b1), .val (.int (1 : Int32)), .val (.int (1 : Int32)), .val (.int (1 : Int32)), .unset] [(.int (1 : Int32))])) _
                refine XS.ifNo X32.here hx rfl (hb hby at_154) rfl ((if0 _ _).trans (feq (by decide : ¬ ((1 : Int32) = (0 : Int32)))).1) ?_
                show Steps p.tables e below (T32.setTop (mkF m 157 #[.val (.long q1), .second, .val (.int p2), .val (.int (2 : Int32)), .val (.ref b1), .val (.int (1 : Int32)), .val (.int (1 : Int32)), .val (.int (1 : Int32)), .unset] [])) _
                refine XS.iload X32.here hx rfl (hb hby at_157) rfl ?_
                show Steps p.tables e below (T32.setTop (mkF m 159 #[.val (.long q1), .second, .val (.int p2), .val (.int (2 : Int32)), .val (.ref b1), .val (.int (1 : Int32)), .val (.int (1 : Int32)), .val (.int (1 : Int32)), .unset] [(.int (1 : Int32))])) _
                refine XS.ifNo X32.here hx rfl (hb hby at_159) rfl ((if0 _ _).trans (feq (by decide : ¬ ((1 : Int32) = (0 : Int32)))).1) ?_
                show Steps p.tables e below (T32.setTop (mkF m 162 #[.val (.long q1), .second, .val (.int p2), .val (.int (2 : Int32)), .val (.ref b1), .val (.int (1 : Int32)), .val (.int (1 : Int32)), .val (.int (1 : Int32)), .unset] [])) _
                refine XS.aload X32.here hx rfl (hb hby at_162) rfl rfl ?_
                show Steps p.tables e below (T32.setTop (mkF m 164 #[.val (.long q1), .second, .val (.int p2), .val (.int (2 : Int32)), .val (.ref b1), .val (.int (1 : Int32)), .val (.int (1 : Int32)), .val (.int (1 : Int32)), .unset] [(.ref b1)])) _
                refine XS.iloadN X32.here hx rfl (hb hby at_164) rfl ?_
                show Steps p.tables e below (T32.setTop (mkF m 165 #[.val (.long q1), .second, .val (.int p2), .val (.int (2 : Int32)), .val (.ref b1), .val (.int (1 : Int32)), .val (.int (1 : Int32)), .val (.int (1 : Int32)), .unset] [(.int (2 : Int32)), (.ref b1)])) _
                refine XS.iconst X32.here hx rfl (hb hby at_165) ?_
                show Steps p.tables e below (T32.setTop (mkF m 166 #[.val (.long q1), .second, .val (.int p2), .val (.int (2 : Int32)), .val (.ref b1), .val (.int (1 : Int32)), .val (.int (1 : Int32)), .val (.int (1 : Int32)), .unset] [(.int (3 : Int32)), (.int (2 : Int32)), (.ref b1)])) _
                refine XS.iadd X32.here hx rfl (hb hby at_166) rfl ?_
                show Steps p.tables e below (T32.setTop (mkF m 167 #[.val (.long q1), .second, .val (.int p2), .val (.int (2 : Int32)), .val (.ref b1), .val (.int (1 : Int32)), .val (.int (1 : Int32)), .val (.int (1 : Int32)), .unset] [(.int (5 : Int32)), (.ref b1)])) _
                refine XS.aload X32.here hx rfl (hb hby at_167) rfl rfl ?_
                show Steps p.tables e below (T32.setTop (mkF m 169 #[.val (.long q1), .second, .val (.int p2), .val (.int (2 : Int32)), .val (.ref b1), .val (.int (1 : Int32)), .val (.int (1 : Int32)), .val (.int (1 : Int32)), .unset] [(.ref b1), (.int (5 : Int32)), (.ref b1)])) _
                refine XS.iloadN X32.here hx rfl (hb hby at_169) rfl ?_
                show Steps p.tables e below (T32.setTop (mkF m 170 #[.val (.long q1), .second, .val (.int p2), .val (.int (2 : Int32)), .val (.ref b1), .val (.int (1 : Int32)), .val (.int (1 : Int32)), .val (.int (1 : Int32)), .unset] [(.int (2 : Int32)), (.ref b1), (.int (5 : Int32)), (.ref b1)])) _
                refine XS.iconst X32.here hx rfl (hb hby at_170) ?_
                show Steps p.tables e below (T32.setTop (mkF m 171 #[.val (.long q1), .second, .val (.int p2), .val (.int (2 : Int32)), .val (.ref b1), .val (.int (1 : Int32)), .val (.int (1 : Int32)), .val (.int (1 : Int32)), .unset] [(.int (3 : Int32)), (.int (2 : Int32)), (.ref b1), (.int (5 : Int32)), (.ref b1)])) _
                refine XS.iadd X32.here hx rfl (hb hby at_171) rfl ?_
                show Steps p.tables e below (T32.setTop (mkF m 172 #[.val (.long q1), .second, .val (.int p2), .val (.int (2 : Int32)), .val (.ref b1), .val (.int (1 : Int32)), .val (.int (1 : Int32)), .val (.int (1 : Int32)), .unset] [(.int (5 : Int32)), (.ref b1), (.int (5 : Int32)), (.ref b1)])) _
                refine X32.baloadBytes hx (j := (5 : Int32)) (v := (.int (nar .byte (own_b5 q1)))) (by rw [e32]; exact Ar160.1) (State.isArrayOf_alike hZ.alike Ar160.2.1) Ar160.2.2 hin160 hat160 (g := (mkF m 172 #[.val (.long q1), .second, .val (.int p2), .val (.int (2 : Int32)), .val (.ref b1), .val (.int (1 : Int32)), .val (.int (1 : Int32)), .val (.int (1 : Int32)), .unset] [(.int (5 : Int32)), (.ref b1), (.int (5 : Int32)), (.ref b1)])) rfl rfl (hb hby at_172) _ ?_
                show Steps p.tables e below (T32.setTop (mkF m 173 #[.val (.long q1), .second, .val (.int p2), .val (.int (2 : Int32)), .val (.ref b1), .val (.int (1 : Int32)), .val (.int (1 : Int32)), .val (.int (1 : Int32)), .unset] [(.int (nar .byte (own_b5 q1))), (.int (5 : Int32)), (.ref b1)])) _
                refine XS.bipush X32.here hx rfl (hb hby at_173) ?_
                show Steps p.tables e below (T32.setTop (mkF m 175 #[.val (.long q1), .second, .val (.int p2), .val (.int (2 : Int32)), .val (.ref b1), .val (.int (1 : Int32)), .val (.int (1 : Int32)), .val (.int (1 : Int32)), .unset] [(.int (127 : Int32)), (.int (nar .byte (own_b5 q1))), (.int (5 : Int32)), (.ref b1)])) _
                refine XS.iand X32.here hx rfl (hb hby at_175) rfl ?_
                show Steps p.tables e below (T32.setTop (mkF m 176 #[.val (.long q1), .second, .val (.int p2), .val (.int (2 : Int32)), .val (.ref b1), .val (.int (1 : Int32)), .val (.int (1 : Int32)), .val (.int (1 : Int32)), .unset] [(.int ((nar .byte (own_b5 q1)) &&& (127 : Int32))), (.int (5 : Int32)), (.ref b1)])) _
                refine XS.i2b X32.here hx rfl (hb hby at_176) rfl ?_
                show Steps p.tables e below (T32.setTop (mkF m 177 #[.val (.long q1), .second, .val (.int p2), .val (.int (2 : Int32)), .val (.ref b1), .val (.int (1 : Int32)), .val (.int (1 : Int32)), .val (.int (1 : Int32)), .unset] [(.int (((nar .byte (own_b5 q1)) &&& (127 : Int32)).toInt8.toInt32)), (.int (5 : Int32)), (.ref b1)])) _
                refine st162 _ ?_
                show Steps p.tables e below (T162.setTop (mkF m 178 #[.val (.long q1), .second, .val (.int p2), .val (.int (2 : Int32)), .val (.ref b1), .val (.int (1 : Int32)), .val (.int (1 : Int32)), .val (.int (1 : Int32)), .unset] [])) _
                refine XS.iload X162.here hx rfl (hb hby at_178) rfl ?_
                show Steps p.tables e below (T162.setTop (mkF m 180 #[.val (.long q1), .second, .val (.int p2), .val (.int (2 : Int32)), .val (.ref b1), .val (.int (1 : Int32)), .val (.int (1 : Int32)), .val (.int (1 : Int32)), .unset] [(.int (1 : Int32))])) _
                refine XS.ifYes X162.here hx rfl (pc0 := 180) (pc' := 189) rfl (hb hby at_180) rfl ((if0 _ _).trans (feq (by decide : ¬ ((1 : Int32) = (0 : Int32)))).2) (by decide) (by decide) ?_
                show Steps p.tables e below (T162.setTop (mkF m 189 #[.val (.long q1), .second, .val (.int p2), .val (.int (2 : Int32)), .val (.ref b1), .val (.int (1 : Int32)), .val (.int (1 : Int32)), .val (.int (1 : Int32)), .unset] [])) _
                refine XS.iload X162.here hx rfl (hb hby at_189) rfl ?_
                show Steps p.tables e below (T162.setTop (mkF m 191 #[.val (.long q1), .second, .val (.int p2), .val (.int (2 : Int32)), .val (.ref b1), .val (.int (1 : Int32)), .val (.int (1 : Int32)), .val (.int (1 : Int32)), .unset] [(.int (1 : Int32))])) _
                refine XS.ifYes X162.here hx rfl (pc0 := 191) (pc' := 200) rfl (hb hby at_191) rfl ((if0 _ _).trans (feq (by decide : ¬ ((1 : Int32) = (0 : Int32)))).2) (by decide) (by decide) ?_
                show Steps p.tables e below (T162.setTop (mkF m 200 #[.val (.long q1), .second, .val (.int p2), .val (.int (2 : Int32)), .val (.ref b1), .val (.int (1 : Int32)), .val (.int (1 : Int32)), .val (.int (1 : Int32)), .unset] [])) _
                refine XS.iload X162.here hx rfl (hb hby at_200) rfl ?_
                show Steps p.tables e below (T162.setTop (mkF m 202 #[.val (.long q1), .second, .val (.int p2), .val (.int (2 : Int32)), .val (.ref b1), .val (.int (1 : Int32)), .val (.int (1 : Int32)), .val (.int (1 : Int32)), .unset] [(.int (1 : Int32))])) _
                refine XS.ifYes X162.here hx rfl (pc0 := 202) (pc' := 211) rfl (hb hby at_202) rfl ((if0 _ _).trans (feq (by decide : ¬ ((1 : Int32) = (0 : Int32)))).2) (by decide) (by decide) ?_
                show Steps p.tables e below (T162.setTop (mkF m 211 #[.val (.long q1), .second, .val (.int p2), .val (.int (2 : Int32)), .val (.ref b1), .val (.int (1 : Int32)), .val (.int (1 : Int32)), .val (.int (1 : Int32)), .unset] [])) _
                refine XS.iconst X162.here hx rfl (hb hby at_211) ?_
                show Steps p.tables e below (T162.setTop (mkF m 212 #[.val (.long q1), .second, .val (.int p2), .val (.int (2 : Int32)), .val (.ref b1), .val (.int (1 : Int32)), .val (.int (1 : Int32)), .val (.int (1 : Int32)), .unset] [(.int (4 : Int32))])) _
                refine XS.istore X162.here hx rfl (hb hby at_212) rfl (l' := #[.val (.long q1), .second, .val (.int p2), .val (.int (2 : Int32)), .val (.ref b1), .val (.int (1 : Int32)), .val (.int (1 : Int32)), .val (.int (1 : Int32)), .val (.int (4 : Int32))]) rfl ?_
                show Steps p.tables e below (T162.setTop (mkF m 214 #[.val (.long q1), .second, .val (.int p2), .val (.int (2 : Int32)), .val (.ref b1), .val (.int (1 : Int32)), .val (.int (1 : Int32)), .val (.int (1 : Int32)), .val (.int (4 : Int32))] [])) _
                refine XS.aload X162.here hx rfl (hb hby at_214) rfl rfl ?_
                show Steps p.tables e below (T162.setTop (mkF m 216 #[.val (.long q1), .second, .val (.int p2), .val (.int (2 : Int32)), .val (.ref b1), .val (.int (1 : Int32)), .val (.int (1 : Int32)), .val (.int (1 : Int32)), .val (.int (4 : Int32))] [(.ref b1)])) _
                refine XS.iloadN X162.here hx rfl (hb hby at_216) rfl ?_
                show Steps p.tables e below (T162.setTop (mkF m 217 #[.val (.long q1), .second, .val (.int p2), .val (.int (2 : Int32)), .val (.ref b1), .val (.int (1 : Int32)), .val (.int (1 : Int32)), .val (.int (1 : Int32)), .val (.int (4 : Int32))] [(.int (2 : Int32)), (.ref b1)])) _
                refine st165 _ ?_
                show Steps p.tables e below (T165.setTop (mkF m 220 #[.val (.long q1), .second, .val (.int p2), .val (.int (2 : Int32)), .val (.ref b1), .val (.int (1 : Int32)), .val (.int (1 : Int32)), .val (.int (1 : Int32)), .val (.int (4 : Int32))] [(.int (own_v2_f1 (nar .byte (own_b2 q1)) (nar .byte (own_b3 q1)) (nar .byte (own_b4 q1))))])) _
                refine XS.iload X165.here hx rfl (hb hby at_220) rfl ?_
                exact kt
              by_cases hc48 : (own_v2_f1 (nar .byte (own_b2 q1)) (nar .byte (own_b3 q1)) (nar .byte (own_b4 q1))) = (4 : Int32)
              ·
                obtain ⟨fs, hr, hrun, hended, hW, hsame⟩ := X165.leave (v := some (.int (1 : Int32))) (fun h => by rw [Bd.returns] at h; cases h)
                refine ⟨_, _, k167 _ ?_, hrun, hended, _, _, rfl, ?_, ⟨_, rfl⟩, hW, hsame.mono (by decide) (by decide)⟩
                · show Steps p.tables e below (T165.setTop (mkF m 222 #[.val (.long q1), .second, .val (.int p2), .val (.int (2 : Int32)), .val (.ref b1), .val (.int (1 : Int32)), .val (.int (1 : Int32)), .val (.int (1 : Int32)), .val (.int (4 : Int32))] [(.int (4 : Int32)), (.int (own_v2_f1 (nar .byte (own_b2 q1)) (nar .byte (own_b3 q1)) (nar .byte (own_b4 q1))))])) _
                  refine XS.icmpNo X165.here hx rfl (hb hby at_222) rfl (teq hc48).2 ?_
                  show Steps p.tables e below (T165.setTop (mkF m 225 #[.val (.long q1), .second, .val (.int p2), .val (.int (2 : Int32)), .val (.ref b1), .val (.int (1 : Int32)), .val (.int (1 : Int32)), .val (.int (1 : Int32)), .val (.int (4 : Int32))] [])) _
                  refine XS.iconst X165.here hx rfl (hb hby at_225) ?_
                  show Steps p.tables e below (T165.setTop (mkF m 226 #[.val (.long q1), .second, .val (.int p2), .val (.int (2 : Int32)), .val (.ref b1), .val (.int (1 : Int32)), .val (.int (1 : Int32)), .val (.int (1 : Int32)), .val (.int (4 : Int32))] [(.int (1 : Int32))])) _
                  refine XS.goto X165.here hx rfl (pc0 := 226) (pc' := 230) rfl (hb hby at_226) (by decide) (by decide) ?_
                  show Steps p.tables e below (T165.setTop (mkF m 230 #[.val (.long q1), .second, .val (.int p2), .val (.int (2 : Int32)), .val (.ref b1), .val (.int (1 : Int32)), .val (.int (1 : Int32)), .val (.int (1 : Int32)), .val (.int (4 : Int32))] [(.int (1 : Int32))])) _
                  exact retN X165 hx (t := .boolean) Bd.returns (by simp) (hb hby at_230) hr
                · show own_Q0 Z q1 p2 h0 n0 _ T165.heap _
                  rw [e165]
                  exact ⟨(by rw [own_f0, if_neg hc1, if_neg hc17, if_pos hc33, if_neg hc34, if_neg hc42, if_neg hc46, if_pos hc48]), N166⟩
              ·
                obtain ⟨fs, hr, hrun, hended, hW, hsame⟩ := X165.leave (v := some (.int (0 : Int32))) (fun h => by rw [Bd.returns] at h; cases h)
                refine ⟨_, _, k167 _ ?_, hrun, hended, _, _, rfl, ?_, ⟨_, rfl⟩, hW, hsame.mono (by decide) (by decide)⟩
                · show Steps p.tables e below (T165.setTop (mkF m 222 #[.val (.long q1), .second, .val (.int p2), .val (.int (2 : Int32)), .val (.ref b1), .val (.int (1 : Int32)), .val (.int (1 : Int32)), .val (.int (1 : Int32)), .val (.int (4 : Int32))] [(.int (4 : Int32)), (.int (own_v2_f1 (nar .byte (own_b2 q1)) (nar .byte (own_b3 q1)) (nar .byte (own_b4 q1))))])) _
                  refine XS.icmpYes X165.here hx rfl (pc0 := 222) (pc' := 229) rfl (hb hby at_222) rfl (feq hc48).2 (by decide) (by decide) ?_
                  show Steps p.tables e below (T165.setTop (mkF m 229 #[.val (.long q1), .second, .val (.int p2), .val (.int (2 : Int32)), .val (.ref b1), .val (.int (1 : Int32)), .val (.int (1 : Int32)), .val (.int (1 : Int32)), .val (.int (4 : Int32))] [])) _
                  refine XS.iconst X165.here hx rfl (hb hby at_229) ?_
                  show Steps p.tables e below (T165.setTop (mkF m 230 #[.val (.long q1), .second, .val (.int p2), .val (.int (2 : Int32)), .val (.ref b1), .val (.int (1 : Int32)), .val (.int (1 : Int32)), .val (.int (1 : Int32)), .val (.int (4 : Int32))] [(.int (0 : Int32))])) _
                  exact retN X165 hx (t := .boolean) Bd.returns (by simp) (hb hby at_230) hr
                · show own_Q0 Z q1 p2 h0 n0 _ T165.heap _
                  rw [e165]
                  exact ⟨(by rw [own_f0, if_neg hc1, if_neg hc17, if_pos hc33, if_neg hc34, if_neg hc42, if_neg hc46, if_neg hc48]), N166⟩
      ·
        have hc49 : (p2 &&& (3 : Int32)) = (3 : Int32) := own_exh p2 hc1 hc17 hc33
        have k168 : ∀ t, Steps p.tables e below (T32.setTop (mkF m 92 #[.val (.long q1), .second, .val (.int p2), .val (.int (3 : Int32)), .val (.ref b1), .unset, .unset, .unset, .unset] [(.int (3 : Int32)), (.ref b1)])) t → Steps p.tables e below (s₁.setTop (entryFrame m #[(.long q1), (.int p2)] maxLocals)) t := by
          intro t kt
          refine k35 t ?_
          rw [hc49]
          exact kt
        obtain ⟨cl169, Ar169, qk169, Sz169, Nn169, Hs169, Gf169⟩ := id V_b1_32
        have hin169 : ¬ ((3 : Int32) < 0 ∨ cl169.slots.size ≤ ((3 : Int32)).toNatClampNeg) := inb_of Sz169 ⟨by decide, by decide⟩
        have hat169 : cl169.slots[((3 : Int32)).toNatClampNeg]? = some (.int (nar .byte (own_b3 q1))) := Has.at Hs169 hin169 rfl
        have k170 : ∀ t, Steps p.tables e below (T32.setTop (mkF m 97 #[.val (.long q1), .second, .val (.int p2), .val (.int (3 : Int32)), .val (.ref b1), .unset, .unset, .unset, .unset] [(.int ((nar .byte (own_b3 q1)) &&& (128 : Int32)))])) t → Steps p.tables e below (s₁.setTop (entryFrame m #[(.long q1), (.int p2)] maxLocals)) t := by
          intro t kt
          refine k168 t ?_
          show Steps p.tables e below (T32.setTop (mkF m 92 #[.val (.long q1), .second, .val (.int p2), .val (.int (3 : Int32)), .val (.ref b1), .unset, .unset, .unset, .unset] [(.int (3 : Int32)), (.ref b1)])) _
          refine X32.baloadBytes hx (j := (3 : Int32)) (v := (.int (nar .byte (own_b3 q1)))) (by rw [e32]; exact Ar169.1) (State.isArrayOf_alike hZ.alike Ar169.2.1) Ar169.2.2 hin169 hat169 (g := (mkF m 92 #[.val (.long q1), .second, .val (.int p2), .val (.int (3 : Int32)), .val (.ref b1), .unset, .unset, .unset, .unset] [(.int (3 : Int32)), (.ref b1)])) rfl rfl (hb hby at_92) _ ?_
          show Steps p.tables e below (T32.setTop (mkF m 93 #[.val (.long q1), .second, .val (.int p2), .val (.int (3 : Int32)), .val (.ref b1), .unset, .unset, .unset, .unset] [(.int (nar .byte (own_b3 q1)))])) _
          refine XS.sipush X32.here hx rfl (hb hby at_93) ?_
          show Steps p.tables e below (T32.setTop (mkF m 96 #[.val (.long q1), .second, .val (.int p2), .val (.int (3 : Int32)), .val (.ref b1), .unset, .unset, .unset, .unset] [(.int (128 : Int32)), (.int (nar .byte (own_b3 q1)))])) _
          refine XS.iand X32.here hx rfl (hb hby at_96) rfl ?_
          exact kt
        by_cases hc50 : ((nar .byte (own_b3 q1)) &&& (128 : Int32)) = (0 : Int32)
        ·
          obtain ⟨cl171, Ar171, qk171, Sz171, Nn171, Hs171, Gf171⟩ := id V_b1_32
          have hin171 : ¬ ((4 : Int32) < 0 ∨ cl171.slots.size ≤ ((4 : Int32)).toNatClampNeg) := inb_of Sz171 ⟨by decide, by decide⟩
          have hat171 : cl171.slots[((4 : Int32)).toNatClampNeg]? = some (.int (nar .byte (own_b4 q1))) := Has.at Hs171 hin171 rfl
          have k172 : ∀ t, Steps p.tables e below (T32.setTop (mkF m 117 #[.val (.long q1), .second, .val (.int p2), .val (.int (3 : Int32)), .val (.ref b1), .val (.int (0 : Int32)), .unset, .unset, .unset] [(.int ((nar .byte (own_b4 q1)) &&& (128 : Int32)))])) t → Steps p.tables e below (s₁.setTop (entryFrame m #[(.long q1), (.int p2)] maxLocals)) t := by
            intro t kt
            refine k170 t ?_
            show Steps p.tables e below (T32.setTop (mkF m 97 #[.val (.long q1), .second, .val (.int p2), .val (.int (3 : Int32)), .val (.ref b1), .unset, .unset, .unset, .unset] [(.int ((nar .byte (own_b3 q1)) &&& (128 : Int32)))])) _
            refine XS.ifYes X32.here hx rfl (pc0 := 97) (pc' := 104) rfl (hb hby at_97) rfl ((if0 _ _).trans (teq hc50).1) (by decide) (by decide) ?_
            show Steps p.tables e below (T32.setTop (mkF m 104 #[.val (.long q1), .second, .val (.int p2), .val (.int (3 : Int32)), .val (.ref b1), .unset, .unset, .unset, .unset] [])) _
            refine XS.iconst X32.here hx rfl (hb hby at_104) ?_
            show Steps p.tables e below (T32.setTop (mkF m 105 #[.val (.long q1), .second, .val (.int p2), .val (.int (3 : Int32)), .val (.ref b1), .unset, .unset, .unset, .unset] [(.int (0 : Int32))])) _
            refine XS.istore X32.here hx rfl (hb hby at_105) rfl (l' := #[.val (.long q1), .second, .val (.int p2), .val (.int (3 : Int32)), .val (.ref b1), .val (.int (0 : Int32)), .unset, .unset, .unset]) rfl ?_
            show Steps p.tables e below (T32.setTop (mkF m 107 #[.val (.long q1), .second, .val (.int p2), .val (.int (3 : Int32)), .val (.ref b1), .val (.int (0 : Int32)), .unset, .unset, .unset] [])) _
            refine XS.aload X32.here hx rfl (hb hby at_107) rfl rfl ?_
            show Steps p.tables e below (T32.setTop (mkF m 109 #[.val (.long q1), .second, .val (.int p2), .val (.int (3 : Int32)), .val (.ref b1), .val (.int (0 : Int32)), .unset, .unset, .unset] [(.ref b1)])) _
            refine XS.iloadN X32.here hx rfl (hb hby at_109) rfl ?_
            show Steps p.tables e below (T32.setTop (mkF m 110 #[.val (.long q1), .second, .val (.int p2), .val (.int (3 : Int32)), .val (.ref b1), .val (.int (0 : Int32)), .unset, .unset, .unset] [(.int (3 : Int32)), (.ref b1)])) _
            refine XS.iconst X32.here hx rfl (hb hby at_110) ?_
            show Steps p.tables e below (T32.setTop (mkF m 111 #[.val (.long q1), .second, .val (.int p2), .val (.int (3 : Int32)), .val (.ref b1), .val (.int (0 : Int32)), .unset, .unset, .unset] [(.int (1 : Int32)), (.int (3 : Int32)), (.ref b1)])) _
            refine XS.iadd X32.here hx rfl (hb hby at_111) rfl ?_
            show Steps p.tables e below (T32.setTop (mkF m 112 #[.val (.long q1), .second, .val (.int p2), .val (.int (3 : Int32)), .val (.ref b1), .val (.int (0 : Int32)), .unset, .unset, .unset] [(.int (4 : Int32)), (.ref b1)])) _
            refine X32.baloadBytes hx (j := (4 : Int32)) (v := (.int (nar .byte (own_b4 q1)))) (by rw [e32]; exact Ar171.1) (State.isArrayOf_alike hZ.alike Ar171.2.1) Ar171.2.2 hin171 hat171 (g := (mkF m 112 #[.val (.long q1), .second, .val (.int p2), .val (.int (3 : Int32)), .val (.ref b1), .val (.int (0 : Int32)), .unset, .unset, .unset] [(.int (4 : Int32)), (.ref b1)])) rfl rfl (hb hby at_112) _ ?_
            show Steps p.tables e below (T32.setTop (mkF m 113 #[.val (.long q1), .second, .val (.int p2), .val (.int (3 : Int32)), .val (.ref b1), .val (.int (0 : Int32)), .unset, .unset, .unset] [(.int (nar .byte (own_b4 q1)))])) _
            refine XS.sipush X32.here hx rfl (hb hby at_113) ?_
            show Steps p.tables e below (T32.setTop (mkF m 116 #[.val (.long q1), .second, .val (.int p2), .val (.int (3 : Int32)), .val (.ref b1), .val (.int (0 : Int32)), .unset, .unset, .unset] [(.int (128 : Int32)), (.int (nar .byte (own_b4 q1)))])) _
            refine XS.iand X32.here hx rfl (hb hby at_116) rfl ?_
            exact kt
          by_cases hc51 : ((nar .byte (own_b4 q1)) &&& (128 : Int32)) = (0 : Int32)
          ·
            obtain ⟨cl173, Ar173, qk173, Sz173, Nn173, Hs173, Gf173⟩ := id V_b1_32
            have hin173 : ¬ ((5 : Int32) < 0 ∨ cl173.slots.size ≤ ((5 : Int32)).toNatClampNeg) := inb_of Sz173 ⟨by decide, by decide⟩
            have hat173 : cl173.slots[((5 : Int32)).toNatClampNeg]? = some (.int (nar .byte (own_b5 q1))) := Has.at Hs173 hin173 rfl
            have k174 : ∀ t, Steps p.tables e below (T32.setTop (mkF m 137 #[.val (.long q1), .second, .val (.int p2), .val (.int (3 : Int32)), .val (.ref b1), .val (.int (0 : Int32)), .val (.int (0 : Int32)), .unset, .unset] [(.int ((nar .byte (own_b5 q1)) &&& (128 : Int32)))])) t → Steps p.tables e below (s₁.setTop (entryFrame m #[(.long q1), (.int p2)] maxLocals)) t := by
              intro t kt
              refine k172 t ?_
              show Steps p.tables e below (T32.setTop (mkF m 117 #[.val (.long q1), .second, .val (.int p2), .val (.int (3 : Int32)), .val (.ref b1), .val (.int (0 : Int32)), .unset, .unset, .unset] [(.int ((nar .byte (own_b4 q1)) &&& (128 : Int32)))])) _
              refine XS.ifYes X32.here hx rfl (pc0 := 117) (pc' := 124) rfl (hb hby at_117) rfl ((if0 _ _).trans (teq hc51).1) (by decide) (by decide) ?_
              show Steps p.tables e below (T32.setTop (mkF m 124 #[.val (.long q1), .second, .val (.int p2), .val (.int (3 : Int32)), .val (.ref b1), .val (.int (0 : Int32)), .unset, .unset, .unset] [])) _
              refine XS.iconst X32.here hx rfl (hb hby at_124) ?_
              show Steps p.tables e below (T32.setTop (mkF m 125 #[.val (.long q1), .second, .val (.int p2), .val (.int (3 : Int32)), .val (.ref b1), .val (.int (0 : Int32)), .unset, .unset, .unset] [(.int (0 : Int32))])) _
              refine XS.istore X32.here hx rfl (hb hby at_125) rfl (l' := #[.val (.long q1), .second, .val (.int p2), .val (.int (3 : Int32)), .val (.ref b1), .val (.int (0 : Int32)), .val (.int (0 : Int32)), .unset, .unset]) rfl ?_
              show Steps p.tables e below (T32.setTop (mkF m 127 #[.val (.long q1), .second, .val (.int p2), .val (.int (3 : Int32)), .val (.ref b1), .val (.int (0 : Int32)), .val (.int (0 : Int32)), .unset, .unset] [])) _
              refine XS.aload X32.here hx rfl (hb hby at_127) rfl rfl ?_
              show Steps p.tables e below (T32.setTop (mkF m 129 #[.val (.long q1), .second, .val (.int p2), .val (.int (3 : Int32)), .val (.ref b1), .val (.int (0 : Int32)), .val (.int (0 : Int32)), .unset, .unset] [(.ref b1)])) _
              refine XS.iloadN X32.here hx rfl (hb hby at_129) rfl ?_
              show Steps p.tables e below (T32.setTop (mkF m 130 #[.val (.long q1), .second, .val (.int p2), .val (.int (3 : Int32)), .val (.ref b1), .val (.int (0 : Int32)), .val (.int (0 : Int32)), .unset, .unset] [(.int (3 : Int32)), (.ref b1)])) _
              refine XS.iconst X32.here hx rfl (hb hby at_130) ?_
              show Steps p.tables e below (T32.setTop (mkF m 131 #[.val (.long q1), .second, .val (.int p2), .val (.int (3 : Int32)), .val (.ref b1), .val (.int (0 : Int32)), .val (.int (0 : Int32)), .unset, .unset] [(.int (2 : Int32)), (.int (3 : Int32)), (.ref b1)])) _
              refine XS.iadd X32.here hx rfl (hb hby at_131) rfl ?_
              show Steps p.tables e below (T32.setTop (mkF m 132 #[.val (.long q1), .second, .val (.int p2), .val (.int (3 : Int32)), .val (.ref b1), .val (.int (0 : Int32)), .val (.int (0 : Int32)), .unset, .unset] [(.int (5 : Int32)), (.ref b1)])) _
              refine X32.baloadBytes hx (j := (5 : Int32)) (v := (.int (nar .byte (own_b5 q1)))) (by rw [e32]; exact Ar173.1) (State.isArrayOf_alike hZ.alike Ar173.2.1) Ar173.2.2 hin173 hat173 (g := (mkF m 132 #[.val (.long q1), .second, .val (.int p2), .val (.int (3 : Int32)), .val (.ref b1), .val (.int (0 : Int32)), .val (.int (0 : Int32)), .unset, .unset] [(.int (5 : Int32)), (.ref b1)])) rfl rfl (hb hby at_132) _ ?_
              show Steps p.tables e below (T32.setTop (mkF m 133 #[.val (.long q1), .second, .val (.int p2), .val (.int (3 : Int32)), .val (.ref b1), .val (.int (0 : Int32)), .val (.int (0 : Int32)), .unset, .unset] [(.int (nar .byte (own_b5 q1)))])) _
              refine XS.sipush X32.here hx rfl (hb hby at_133) ?_
              show Steps p.tables e below (T32.setTop (mkF m 136 #[.val (.long q1), .second, .val (.int p2), .val (.int (3 : Int32)), .val (.ref b1), .val (.int (0 : Int32)), .val (.int (0 : Int32)), .unset, .unset] [(.int (128 : Int32)), (.int (nar .byte (own_b5 q1)))])) _
              refine XS.iand X32.here hx rfl (hb hby at_136) rfl ?_
              exact kt
            by_cases hc52 : ((nar .byte (own_b5 q1)) &&& (128 : Int32)) = (0 : Int32)
            ·
              obtain ⟨v175, _, ⟨T175, L175, k175, n175⟩, -, X175, ⟨Lc175, hQ175, l175, y175, z175⟩, st175⟩ := Jvm.LawKit.callS X32 hx (y := (⟨"com/example/castd/castd/mqtt/VariableByteInteger", "length", "([BI)I"⟩ : MethodName)) hown (mvT hZ (hw _ (List.mem_of_getElem? (i := 1) rfl))) (mvT hZ (hw _ (List.mem_of_getElem? (i := 2) rfl))) (mvT hZ (hw _ (List.mem_of_getElem? (i := 3) rfl))) (mvT hZ (hw _ (List.mem_of_getElem? (i := 4) rfl))) (by decide) (backOf (W := 0) (own_v3_rm1 l Z a0 hw [] b1 k1 (nar .byte (own_b0 q1)) (nar .byte (own_b1 q1)) (nar .byte (own_b2 q1)) (nar .byte (own_b3 q1)) (nar .byte (own_b4 q1)) (nar .byte (own_b5 q1)) (nar .byte (own_b6 q1)) (nar .byte (own_b7 q1)) h32 n0 Z34 V_b1_32 (by intro h1 h2 h3; first | contradiction | exact own_clr _)) hZ (hw _ (List.mem_of_getElem? (i := 4) rfl)) (hw _ (List.mem_of_getElem? (i := 3) rfl)) (by decide) (by decide)) (g := (mkF m 217 #[.val (.long q1), .second, .val (.int p2), .val (.int (3 : Int32)), .val (.ref b1), .val (.int (0 : Int32)), .val (.int (0 : Int32)), .val (.int (0 : Int32)), .val (.int (1 : Int32))] [(.int (3 : Int32)), (.ref b1)])) rfl (by rw [hml]; rfl) (argsL := [(.ref b1), (.int (3 : Int32))]) (rest := []) (lenOf own_pd25 rfl) rfl (by show 2 * 0 + _ ≤ _; exact Nat.le_of_eq rfl) (hb hby at_217) (fun _ _ => ⟨rfl, e32, (by decide : 1 + 0 ≤ _), (by decide : 8 + 0 ≤ _)⟩)
              dsimp only [Pt.U, Pt.locs, Pt.cells, Pt.slots] at X175 l175 y175 z175 st175 hQ175
              subst l175 y175 z175
              obtain ⟨rfl, N175q, e175⟩ := hQ175
              have N176 := Fr.app N33 N175q
              have k177 : ∀ t, Steps p.tables e below (T175.setTop (mkF m 222 #[.val (.long q1), .second, .val (.int p2), .val (.int (3 : Int32)), .val (.ref b1), .val (.int (0 : Int32)), .val (.int (0 : Int32)), .val (.int (0 : Int32)), .val (.int (1 : Int32))] [(.int (1 : Int32)), (.int (own_v3_f1 (nar .byte (own_b3 q1)) (nar .byte (own_b4 q1)) (nar .byte (own_b5 q1))))])) t → Steps p.tables e below (s₁.setTop (entryFrame m #[(.long q1), (.int p2)] maxLocals)) t := by
                intro t kt
                refine k174 t ?_
                show Steps p.tables e below (T32.setTop (mkF m 137 #[.val (.long q1), .second, .val (.int p2), .val (.int (3 : Int32)), .val (.ref b1), .val (.int (0 : Int32)), .val (.int (0 : Int32)), .unset, .unset] [(.int ((nar .byte (own_b5 q1)) &&& (128 : Int32)))])) _
                refine XS.ifYes X32.here hx rfl (pc0 := 137) (pc' := 144) rfl (hb hby at_137) rfl ((if0 _ _).trans (teq hc52).1) (by decide) (by decide) ?_
                show Steps p.tables e below (T32.setTop (mkF m 144 #[.val (.long q1), .second, .val (.int p2), .val (.int (3 : Int32)), .val (.ref b1), .val (.int (0 : Int32)), .val (.int (0 : Int32)), .unset, .unset] [])) _
                refine XS.iconst X32.here hx rfl (hb hby at_144) ?_
                show Steps p.tables e below (T32.setTop (mkF m 145 #[.val (.long q1), .second, .val (.int p2), .val (.int (3 : Int32)), .val (.ref b1), .val (.int (0 : Int32)), .val (.int (0 : Int32)), .unset, .unset] [(.int (0 : Int32))])) _
                refine XS.istore X32.here hx rfl (hb hby at_145) rfl (l' := #[.val (.long q1), .second, .val (.int p2), .val (.int (3 : Int32)), .val (.ref b1), .val (.int (0 : Int32)), .val (.int (0 : Int32)), .val (.int (0 : Int32)), .unset]) rfl ?_
                show Steps p.tables e below (T32.setTop (mkF m 147 #[.val (.long q1), .second, .val (.int p2), .val (.int (3 : Int32)), .val (.ref b1), .val (.int (0 : Int32)), .val (.int (0 : Int32)), .val (.int (0 : Int32)), .unset] [])) _
                refine XS.iload X32.here hx rfl (hb hby at_147) rfl ?_
                show Steps p.tables e below (T32.setTop (mkF m 149 #[.val (.long q1), .second, .val (.int p2), .val (.int (3 : Int32)), .val (.ref b1), .val (.int (0 : Int32)), .val (.int (0 : Int32)), .val (.int (0 : Int32)), .unset] [(.int (0 : Int32))])) _
                refine XS.ifYes X32.here hx rfl (pc0 := 149) (pc' := 178) rfl (hb hby at_149) rfl ((if0 _ _).trans (teq (by decide : (0 : Int32) = (0 : Int32))).1) (by decide) (by decide) ?_
                show Steps p.tables e below (T32.setTop (mkF m 178 #[.val (.long q1), .second, .val (.int p2), .val (.int (3 : Int32)), .val (.ref b1), .val (.int (0 : Int32)), .val (.int (0 : Int32)), .val (.int (0 : Int32)), .unset] [])) _
                refine XS.iload X32.here hx rfl (hb hby at_178) rfl ?_
                show Steps p.tables e below (T32.setTop (mkF m 180 #[.val (.long q1), .second, .val (.int p2), .val (.int (3 : Int32)), .val (.ref b1), .val (.int (0 : Int32)), .val (.int (0 : Int32)), .val (.int (0 : Int32)), .unset] [(.int (0 : Int32))])) _
                refine XS.ifNo X32.here hx rfl (hb hby at_180) rfl ((if0 _ _).trans (teq (by decide : (0 : Int32) = (0 : Int32))).2) ?_
                show Steps p.tables e below (T32.setTop (mkF m 183 #[.val (.long q1), .second, .val (.int p2), .val (.int (3 : Int32)), .val (.ref b1), .val (.int (0 : Int32)), .val (.int (0 : Int32)), .val (.int (0 : Int32)), .unset] [])) _
                refine XS.iconst X32.here hx rfl (hb hby at_183) ?_
                show Steps p.tables e below (T32.setTop (mkF m 184 #[.val (.long q1), .second, .val (.int p2), .val (.int (3 : Int32)), .val (.ref b1), .val (.int (0 : Int32)), .val (.int (0 : Int32)), .val (.int (0 : Int32)), .unset] [(.int (1 : Int32))])) _
                refine XS.istore X32.here hx rfl (hb hby at_184) rfl (l' := #[.val (.long q1), .second, .val (.int p2), .val (.int (3 : Int32)), .val (.ref b1), .val (.int (0 : Int32)), .val (.int (0 : Int32)), .val (.int (0 : Int32)), .val (.int (1 : Int32))]) rfl ?_
                show Steps p.tables e below (T32.setTop (mkF m 186 #[.val (.long q1), .second, .val (.int p2), .val (.int (3 : Int32)), .val (.ref b1), .val (.int (0 : Int32)), .val (.int (0 : Int32)), .val (.int (0 : Int32)), .val (.int (1 : Int32))] [])) _
                refine XS.goto X32.here hx rfl (pc0 := 186) (pc' := 214) rfl (hb hby at_186) (by decide) (by decide) ?_
                show Steps p.tables e below (T32.setTop (mkF m 214 #[.val (.long q1), .second, .val (.int p2), .val (.int (3 : Int32)), .val (.ref b1), .val (.int (0 : Int32)), .val (.int (0 : Int32)), .val (.int (0 : Int32)), .val (.int (1 : Int32))] [])) _
                refine XS.aload X32.here hx rfl (hb hby at_214) rfl rfl ?_
                show Steps p.tables e below (T32.setTop (mkF m 216 #[.val (.long q1), .second, .val (.int p2), .val (.int (3 : Int32)), .val (.ref b1), .val (.int (0 : Int32)), .val (.int (0 : Int32)), .val (.int (0 : Int32)), .val (.int (1 : Int32))] [(.ref b1)])) _
                refine XS.iloadN X32.here hx rfl (hb hby at_216) rfl ?_
                show Steps p.tables e below (T32.setTop (mkF m 217 #[.val (.long q1), .second, .val (.int p2), .val (.int (3 : Int32)), .val (.ref b1), .val (.int (0 : Int32)), .val (.int (0 : Int32)), .val (.int (0 : Int32)), .val (.int (1 : Int32))] [(.int (3 : Int32)), (.ref b1)])) _
                refine st175 _ ?_
                show Steps p.tables e below (T175.setTop (mkF m 220 #[.val (.long q1), .second, .val (.int p2), .val (.int (3 : Int32)), .val (.ref b1), .val (.int (0 : Int32)), .val (.int (0 : Int32)), .val (.int (0 : Int32)), .val (.int (1 : Int32))] [(.int (own_v3_f1 (nar .byte (own_b3 q1)) (nar .byte (own_b4 q1)) (nar .byte (own_b5 q1))))])) _
                refine XS.iload X175.here hx rfl (hb hby at_220) rfl ?_
                exact kt
              by_cases hc53 : (own_v3_f1 (nar .byte (own_b3 q1)) (nar .byte (own_b4 q1)) (nar .byte (own_b5 q1))) = (1 : Int32)
              ·
                obtain ⟨fs, hr, hrun, hended, hW, hsame⟩ := X175.leave (v := some (.int (1 : Int32))) (fun h => by rw [Bd.returns] at h; cases h)
                refine ⟨_, _, k177 _ ?_, hrun, hended, _, _, rfl, ?_, ⟨_, rfl⟩, hW, hsame.mono (by decide) (by decide)⟩
                · show Steps p.tables e below (T175.setTop (mkF m 222 #[.val (.long q1), .second, .val (.int p2), .val (.int (3 : Int32)), .val (.ref b1), .val (.int (0 : Int32)), .val (.int (0 : Int32)), .val (.int (0 : Int32)), .val (.int (1 : Int32))] [(.int (1 : Int32)), (.int (own_v3_f1 (nar .byte (own_b3 q1)) (nar .byte (own_b4 q1)) (nar .byte (own_b5 q1))))])) _
                  refine XS.icmpNo X175.here hx rfl (hb hby at_222) rfl (teq hc53).2 ?_
                  show Steps p.tables e below (T175.setTop (mkF m 225 #[.val (.long q1), .second, .val (.int p2), .val (.int (3 : Int32)), .val (.ref b1), .val (.int (0 : Int32)), .val (.int (0 : Int32)), .val (.int (0 : Int32)), .val (.int (1 : Int32))] [])) _
                  refine XS.iconst X175.here hx rfl (hb hby at_225) ?_
                  show Steps p.tables e below (T175.setTop (mkF m 226 #[.val (.long q1), .second, .val (.int p2), .val (.int (3 : Int32)), .val (.ref b1), .val (.int (0 : Int32)), .val (.int (0 : Int32)), .val (.int (0 : Int32)), .val (.int (1 : Int32))] [(.int (1 : Int32))])) _
                  refine XS.goto X175.here hx rfl (pc0 := 226) (pc' := 230) rfl (hb hby at_226) (by decide) (by decide) ?_
                  show Steps p.tables e below (T175.setTop (mkF m 230 #[.val (.long q1), .second, .val (.int p2), .val (.int (3 : Int32)), .val (.ref b1), .val (.int (0 : Int32)), .val (.int (0 : Int32)), .val (.int (0 : Int32)), .val (.int (1 : Int32))] [(.int (1 : Int32))])) _
                  exact retN X175 hx (t := .boolean) Bd.returns (by simp) (hb hby at_230) hr
                · show own_Q0 Z q1 p2 h0 n0 _ T175.heap _
                  rw [e175]
                  exact ⟨(by rw [own_f0, if_neg hc1, if_neg hc17, if_neg hc33, if_pos hc50, if_pos hc51, if_pos hc52, if_pos hc53]), N176⟩
              ·
                obtain ⟨fs, hr, hrun, hended, hW, hsame⟩ := X175.leave (v := some (.int (0 : Int32))) (fun h => by rw [Bd.returns] at h; cases h)
                refine ⟨_, _, k177 _ ?_, hrun, hended, _, _, rfl, ?_, ⟨_, rfl⟩, hW, hsame.mono (by decide) (by decide)⟩
                · show Steps p.tables e below (T175.setTop (mkF m 222 #[.val (.long q1), .second, .val (.int p2), .val (.int (3 : Int32)), .val (.ref b1), .val (.int (0 : Int32)), .val (.int (0 : Int32)), .val (.int (0 : Int32)), .val (.int (1 : Int32))] [(.int (1 : Int32)), (.int (own_v3_f1 (nar .byte (own_b3 q1)) (nar .byte (own_b4 q1)) (nar .byte (own_b5 q1))))])) _
                  refine XS.icmpYes X175.here hx rfl (pc0 := 222) (pc' := 229) rfl (hb hby at_222) rfl (feq hc53).2 (by decide) (by decide) ?_
                  show Steps p.tables e below (T175.setTop (mkF m 229 #[.val (.long q1), .second, .val (.int p2), .val (.int (3 : Int32)), .val (.ref b1), .val (.int (0 : Int32)), .val (.int (0 : Int32)), .val (.int (0 : Int32)), .val (.int (1 : Int32))] [])) _
                  refine XS.iconst X175.here hx rfl (hb hby at_229) ?_
                  show Steps p.tables e below (T175.setTop (mkF m 230 #[.val (.long q1), .second, .val (.int p2), .val (.int (3 : Int32)), .val (.ref b1), .val (.int (0 : Int32)), .val (.int (0 : Int32)), .val (.int (0 : Int32)), .val (.int (1 : Int32))] [(.int (0 : Int32))])) _
                  exact retN X175 hx (t := .boolean) Bd.returns (by simp) (hb hby at_230) hr
                · show own_Q0 Z q1 p2 h0 n0 _ T175.heap _
                  rw [e175]
                  exact ⟨(by rw [own_f0, if_neg hc1, if_neg hc17, if_neg hc33, if_pos hc50, if_pos hc51, if_pos hc52, if_neg hc53]), N176⟩
            ·
              obtain ⟨v178, _, ⟨T178, L178, k178, n178⟩, -, X178, ⟨Lc178, hQ178, l178, y178, z178⟩, st178⟩ := Jvm.LawKit.callS X32 hx (y := (⟨"com/example/castd/castd/mqtt/VariableByteInteger", "length", "([BI)I"⟩ : MethodName)) hown (mvT hZ (hw _ (List.mem_of_getElem? (i := 1) rfl))) (mvT hZ (hw _ (List.mem_of_getElem? (i := 2) rfl))) (mvT hZ (hw _ (List.mem_of_getElem? (i := 3) rfl))) (mvT hZ (hw _ (List.mem_of_getElem? (i := 4) rfl))) (by decide) (backOf (W := 0) (own_v3_rm1 l Z a0 hw [] b1 k1 (nar .byte (own_b0 q1)) (nar .byte (own_b1 q1)) (nar .byte (own_b2 q1)) (nar .byte (own_b3 q1)) (nar .byte (own_b4 q1)) (nar .byte (own_b5 q1)) (nar .byte (own_b6 q1)) (nar .byte (own_b7 q1)) h32 n0 Z34 V_b1_32 (by intro h1 h2 h3; first | contradiction | exact own_clr _)) hZ (hw _ (List.mem_of_getElem? (i := 4) rfl)) (hw _ (List.mem_of_getElem? (i := 3) rfl)) (by decide) (by decide)) (g := (mkF m 217 #[.val (.long q1), .second, .val (.int p2), .val (.int (3 : Int32)), .val (.ref b1), .val (.int (0 : Int32)), .val (.int (0 : Int32)), .val (.int (1 : Int32)), .val (.int (1 : Int32))] [(.int (3 : Int32)), (.ref b1)])) rfl (by rw [hml]; rfl) (argsL := [(.ref b1), (.int (3 : Int32))]) (rest := []) (lenOf own_pd25 rfl) rfl (by show 2 * 0 + _ ≤ _; exact Nat.le_of_eq rfl) (hb hby at_217) (fun _ _ => ⟨rfl, e32, (by decide : 1 + 0 ≤ _), (by decide : 8 + 0 ≤ _)⟩)
              dsimp only [Pt.U, Pt.locs, Pt.cells, Pt.slots] at X178 l178 y178 z178 st178 hQ178
              subst l178 y178 z178
              obtain ⟨rfl, N178q, e178⟩ := hQ178
              have N179 := Fr.app N33 N178q
              have k180 : ∀ t, Steps p.tables e below (T178.setTop (mkF m 222 #[.val (.long q1), .second, .val (.int p2), .val (.int (3 : Int32)), .val (.ref b1), .val (.int (0 : Int32)), .val (.int (0 : Int32)), .val (.int (1 : Int32)), .val (.int (1 : Int32))] [(.int (1 : Int32)), (.int (own_v3_f1 (nar .byte (own_b3 q1)) (nar .byte (own_b4 q1)) (nar .byte (own_b5 q1))))])) t → Steps p.tables e below (s₁.setTop (entryFrame m #[(.long q1), (.int p2)] maxLocals)) t := by
                intro t kt
                refine k174 t ?_
                show Steps p.tables e below (T32.setTop (mkF m 137 #[.val (.long q1), .second, .val (.int p2), .val (.int (3 : Int32)), .val (.ref b1), .val (.int (0 : Int32)), .val (.int (0 : Int32)), .unset, .unset] [(.int ((nar .byte (own_b5 q1)) &&& (128 : Int32)))])) _
                refine XS.ifNo X32.here hx rfl (hb hby at_137) rfl ((if0 _ _).trans (feq hc52).1) ?_
                show Steps p.tables e below (T32.setTop (mkF m 140 #[.val (.long q1), .second, .val (.int p2), .val (.int (3 : Int32)), .val (.ref b1), .val (.int (0 : Int32)), .val (.int (0 : Int32)), .unset, .unset] [])) _
                refine XS.iconst X32.here hx rfl (hb hby at_140) ?_
                show Steps p.tables e below (T32.setTop (mkF m 141 #[.val (.long q1), .second, .val (.int p2), .val (.int (3 : Int32)), .val (.ref b1), .val (.int (0 : Int32)), .val (.int (0 : Int32)), .unset, .unset] [(.int (1 : Int32))])) _
                refine XS.goto X32.here hx rfl (pc0 := 141) (pc' := 145) rfl (hb hby at_141) (by decide) (by decide) ?_
                show Steps p.tables e below (T32.setTop (mkF m 145 #[.val (.long q1), .second, .val (.int p2), .val (.int (3 : Int32)), .val (.ref b1), .val (.int (0 : Int32)), .val (.int (0 : Int32)), .unset, .unset] [(.int (1 : Int32))])) _
                refine XS.istore X32.here hx rfl (hb hby at_145) rfl (l' := #[.val (.long q1), .second, .val (.int p2), .val (.int (3 : Int32)), .val (.ref b1), .val (.int (0 : Int32)), .val (.int (0 : Int32)), .val (.int (1 : Int32)), .unset]) rfl ?_
                show Steps p.tables e below (T32.setTop (mkF m 147 #[.val (.long q1), .second, .val (.int p2), .val (.int (3 : Int32)), .val (.ref b1), .val (.int (0 : Int32)), .val (.int (0 : Int32)), .val (.int (1 : Int32)), .unset] [])) _
                refine XS.iload X32.here hx rfl (hb hby at_147) rfl ?_
                show Steps p.tables e below (T32.setTop (mkF m 149 #[.val (.long q1), .second, .val (.int p2), .val (.int (3 : Int32)), .val (.ref b1), .val (.int (0 : Int32)), .val (.int (0 : Int32)), .val (.int (1 : Int32)), .unset] [(.int (0 : Int32))])) _
                refine XS.ifYes X32.here hx rfl (pc0 := 149) (pc' := 178) rfl (hb hby at_149) rfl ((if0 _ _).trans (teq (by decide : (0 : Int32) = (0 : Int32))).1) (by decide) (by decide) ?_
                show Steps p.tables e below (T32.setTop (mkF m 178 #[.val (.long q1), .second, .val (.int p2), .val (.int (3 : Int32)), .val (.ref b1), .val (.int (0 : Int32)), .val (.int (0 : Int32)), .val (.int (1 : Int32)), .unset] [])) _
                refine XS.iload X32.here hx rfl (hb hby at_178) rfl ?_
                show Steps p.tables e below (T32.setTop (mkF m 180 #[.val (.long q1), .second, .val (.int p2), .val (.int (3 : Int32)), .val (.ref b1), .val (.int (0 : Int32)), .val (.int (0 : Int32)), .val (.int (1 : Int32)), .unset] [(.int (0 : Int32))])) _
                refine XS.ifNo X32.here hx rfl (hb hby at_180) rfl ((if0 _ _).trans (teq (by decide : (0 : Int32) = (0 : Int32))).2) ?_
                show Steps p.tables e below (T32.setTop (mkF m 183 #[.val (.long q1), .second, .val (.int p2), .val (.int (3 : Int32)), .val (.ref b1), .val (.int (0 : Int32)), .val (.int (0 : Int32)), .val (.int (1 : Int32)), .unset] [])) _
                refine XS.iconst X32.here hx rfl (hb hby at_183) ?_
                show Steps p.tables e below (T32.setTop (mkF m 184 #[.val (.long q1), .second, .val (.int p2), .val (.int (3 : Int32)), .val (.ref b1), .val (.int (0 : Int32)), .val (.int (0 : Int32)), .val (.int (1 : Int32)), .unset] [(.int (1 : Int32))])) _
                refine XS.istore X32.here hx rfl (hb hby at_184) rfl (l' := #[.val (.long q1), .second, .val (.int p2), .val (.int (3 : Int32)), .val (.ref b1), .val (.int (0 : Int32)), .val (.int (0 : Int32)), .val (.int (1 : Int32)), .val (.int (1 : Int32))]) rfl ?_
                show Steps p.tables e below (T32.setTop (mkF m 186 #[.val (.long q1), .second, .val (.int p2), .val (.int (3 : Int32)), .val (.ref b1), .val (.int (0 : Int32)), .val (.int (0 : Int32)), .val (.int (1 : Int32)), .val (.int (1 : Int32))] [])) _
                refine XS.goto X32.here hx rfl (pc0 := 186) (pc' := 214) rfl (hb hby at_186) (by decide) (by decide) ?_
                show Steps p.tables e below (T32.setTop (mkF m 214 #[.val (.long q1), .second, .val (.int p2), .val (.int (3 : Int32)), .val (.ref b1), .val (.int (0 : Int32)), .val (.int (0 : Int32)), .val (.int (1 : Int32)), .val (.int (1 : Int32))] [])) _
                refine XS.aload X32.here hx rfl (hb hby at_214) rfl rfl ?_
                show Steps p.tables e below (T32.setTop (mkF m 216 #[.val (.long q1), .second, .val (.int p2), .val (.int (3 : Int32)), .val (.ref b1), .val (.int (0 : Int32)), .val (.int (0 : Int32)), .val (.int (1 : Int32)), .val (.int (1 : Int32))] [(.ref b1)])) _
                refine XS.iloadN X32.here hx rfl (hb hby at_216) rfl ?_
                show Steps p.tables e below (T32.setTop (mkF m 217 #[.val (.long q1), .second, .val (.int p2), .val (.int (3 : Int32)), .val (.ref b1), .val (.int (0 : Int32)), .val (.int (0 : Int32)), .val (.int (1 : Int32)), .val (.int (1 : Int32))] [(.int (3 : Int32)), (.ref b1)])) _
                refine st178 _ ?_
                show Steps p.tables e below (T178.setTop (mkF m 220 #[.val (.long q1), .second, .val (.int p2), .val (.int (3 : Int32)), .val (.ref b1), .val (.int (0 : Int32)), .val (.int (0 : Int32)), .val (.int (1 : Int32)), .val (.int (1 : Int32))] [(.int (own_v3_f1 (nar .byte (own_b3 q1)) (nar .byte (own_b4 q1)) (nar .byte (own_b5 q1))))])) _
                refine XS.iload X178.here hx rfl (hb hby at_220) rfl ?_
                exact kt
              by_cases hc54 : (own_v3_f1 (nar .byte (own_b3 q1)) (nar .byte (own_b4 q1)) (nar .byte (own_b5 q1))) = (1 : Int32)
              ·
                obtain ⟨fs, hr, hrun, hended, hW, hsame⟩ := X178.leave (v := some (.int (1 : Int32))) (fun h => by rw [Bd.returns] at h; cases h)
                refine ⟨_, _, k180 _ ?_, hrun, hended, _, _, rfl, ?_, ⟨_, rfl⟩, hW, hsame.mono (by decide) (by decide)⟩
                · show Steps p.tables e below (T178.setTop (mkF m 222 #[.val (.long q1), .second, .val (.int p2), .val (.int (3 : Int32)), .val (.ref b1), .val (.int (0 : Int32)), .val (.int (0 : Int32)), .val (.int (1 : Int32)), .val (.int (1 : Int32))] [(.int (1 : Int32)), (.int (own_v3_f1 (nar .byte (own_b3 q1)) (nar .byte (own_b4 q1)) (nar .byte (own_b5 q1))))])) _
                  refine XS.icmpNo X178.here hx rfl (hb hby at_222) rfl (teq hc54).2 ?_
                  show Steps p.tables e below (T178.setTop (mkF m 225 #[.val (.long q1), .second, .val (.int p2), .val (.int (3 : Int32)), .val (.ref b1), .val (.int (0 : Int32)), .val (.int (0 : Int32)), .val (.int (1 : Int32)), .val (.int (1 : Int32))] [])) _
                  refine XS.iconst X178.here hx rfl (hb hby at_225) ?_
                  show Steps p.tables e below (T178.setTop (mkF m 226 #[.val (.long q1), .second, .val (.int p2), .val (.int (3 : Int32)), .val (.ref b1), .val (.int (0 : Int32)), .val (.int (0 : Int32)), .val (.int (1 : Int32)), .val (.int (1 : Int32))] [(.int (1 : Int32))])) _
                  refine XS.goto X178.here hx rfl (pc0 := 226) (pc' := 230) rfl (hb hby at_226) (by decide) (by decide) ?_
                  show Steps p.tables e below (T178.setTop (mkF m 230 #[.val (.long q1), .second, .val (.int p2), .val (.int (3 : Int32)), .val (.ref b1), .val (.int (0 : Int32)), .val (.int (0 : Int32)), .val (.int (1 : Int32)), .val (.int (1 : Int32))] [(.int (1 : Int32))])) _
                  exact retN X178 hx (t := .boolean) Bd.returns (by simp) (hb hby at_230) hr
                · show own_Q0 Z q1 p2 h0 n0 _ T178.heap _
                  rw [e178]
                  exact ⟨(by rw [own_f0, if_neg hc1, if_neg hc17, if_neg hc33, if_pos hc50, if_pos hc51, if_neg hc52, if_pos hc54]), N179⟩
              ·
                obtain ⟨fs, hr, hrun, hended, hW, hsame⟩ := X178.leave (v := some (.int (0 : Int32))) (fun h => by rw [Bd.returns] at h; cases h)
                refine ⟨_, _, k180 _ ?_, hrun, hended, _, _, rfl, ?_, ⟨_, rfl⟩, hW, hsame.mono (by decide) (by decide)⟩
                · show Steps p.tables e below (T178.setTop (mkF m 222 #[.val (.long q1), .second, .val (.int p2), .val (.int (3 : Int32)), .val (.ref b1), .val (.int (0 : Int32)), .val (.int (0 : Int32)), .val (.int (1 : Int32)), .val (.int (1 : Int32))] [(.int (1 : Int32)), (.int (own_v3_f1 (nar .byte (own_b3 q1)) (nar .byte (own_b4 q1)) (nar .byte (own_b5 q1))))])) _
                  refine XS.icmpYes X178.here hx rfl (pc0 := 222) (pc' := 229) rfl (hb hby at_222) rfl (feq hc54).2 (by decide) (by decide) ?_
                  show Steps p.tables e below (T178.setTop (mkF m 229 #[.val (.long q1), .second, .val (.int p2), .val (.int (3 : Int32)), .val (.ref b1), .val (.int (0 : Int32)), .val (.int (0 : Int32)), .val (.int (1 : Int32)), .val (.int (1 : Int32))] [])) _
                  refine XS.iconst X178.here hx rfl (hb hby at_229) ?_
                  show Steps p.tables e below (T178.setTop (mkF m 230 #[.val (.long q1), .second, .val (.int p2), .val (.int (3 : Int32)), .val (.ref b1), .val (.int (0 : Int32)), .val (.int (0 : Int32)), .val (.int (1 : Int32)), .val (.int (1 : Int32))] [(.int (0 : Int32))])) _
                  exact retN X178 hx (t := .boolean) Bd.returns (by simp) (hb hby at_230) hr
                · show own_Q0 Z q1 p2 h0 n0 _ T178.heap _
                  rw [e178]
                  exact ⟨(by rw [own_f0, if_neg hc1, if_neg hc17, if_neg hc33, if_pos hc50, if_pos hc51, if_neg hc52, if_neg hc54]), N179⟩
          ·
            obtain ⟨cl181, Ar181, qk181, Sz181, Nn181, Hs181, Gf181⟩ := id V_b1_32
            have hin181 : ¬ ((5 : Int32) < 0 ∨ cl181.slots.size ≤ ((5 : Int32)).toNatClampNeg) := inb_of Sz181 ⟨by decide, by decide⟩
            have hat181 : cl181.slots[((5 : Int32)).toNatClampNeg]? = some (.int (nar .byte (own_b5 q1))) := Has.at Hs181 hin181 rfl
            have k182 : ∀ t, Steps p.tables e below (T32.setTop (mkF m 137 #[.val (.long q1), .second, .val (.int p2), .val (.int (3 : Int32)), .val (.ref b1), .val (.int (0 : Int32)), .val (.int (1 : Int32)), .unset, .unset] [(.int ((nar .byte (own_b5 q1)) &&& (128 : Int32)))])) t → Steps p.tables e below (s₁.setTop (entryFrame m #[(.long q1), (.int p2)] maxLocals)) t := by
              intro t kt
              refine k172 t ?_
              show Steps p.tables e below (T32.setTop (mkF m 117 #[.val (.long q1), .second, .val (.int p2), .val (.int (3 : Int32)), .val (.ref b1), .val (.int (0 : Int32)), .unset, .unset, .unset] [(.int ((nar .byte (own_b4 q1)) &&& (128 : Int32)))])) _
              refine XS.ifNo X32.here hx rfl (hb hby at_117) rfl ((if0 _ _).trans (feq hc51).1) ?_
              show Steps p.tables e below (T32.setTop (mkF m 120 #[.val (.long q1), .second, .val (.int p2), .val (.int (3 : Int32)), .val (.ref b1), .val (.int (0 : Int32)), .unset, .unset, .unset] [])) _
              refine XS.iconst X32.here hx rfl (hb hby at_120) ?_
              show Steps p.tables e below (T32.setTop (mkF m 121 #[.val (.long q1), .second, .val (.int p2), .val (.int (3 : Int32)), .val (.ref b1), .val (.int (0 : Int32)), .unset, .unset, .unset] [(.int (1 : Int32))])) _
              refine XS.goto X32.here hx rfl (pc0 := 121) (pc' := 125) rfl (hb hby at_121) (by decide) (by decide) ?_
              show Steps p.tables e below (T32.setTop (mkF m 125 #[.val (.long q1), .second, .val (.int p2), .val (.int (3 : Int32)), .val (.ref b1), .val (.int (0 : Int32)), .unset, .unset, .unset] [(.int (1 : Int32))])) _
              refine XS.istore X32.here hx rfl (hb hby at_125) rfl (l' := #[.val (.long q1), .second, .val (.int p2), .val (.int (3 : Int32)), .val (.ref b1), .val (.int (0 : Int32)), .val (.int (1 : Int32)), .unset, .unset]) rfl ?_
              show Steps p.tables e below (T32.setTop (mkF m 127 #[.val (.long q1), .second, .val (.int p2), .val (.int (3 : Int32)), .val (.ref b1), .val (.int (0 : Int32)), .val (.int (1 : Int32)), .unset, .unset] [])) _
              refine XS.aload X32.here hx rfl (hb hby at_127) rfl rfl ?_
              show Steps p.tables e below (T32.setTop (mkF m 129 #[.val (.long q1), .second, .val (.int p2), .val (.int (3 : Int32)), .val (.ref b1), .val (.int (0 : Int32)), .val (.int (1 : Int32)), .unset, .unset] [(.ref b1)])) _
              refine XS.iloadN X32.here hx rfl (hb hby at_129) rfl ?_
              show Steps p.tables e below (T32.setTop (mkF m 130 #[.val (.long q1), .second, .val (.int p2), .val (.int (3 : Int32)), .val (.ref b1), .val (.int (0 : Int32)), .val (.int (1 : Int32)), .unset, .unset] [(.int (3 : Int32)), (.ref b1)])) _
              refine XS.iconst X32.here hx rfl (hb hby at_130) ?_
              show Steps p.tables e below (T32.setTop (mkF m 131 #[.val (.long q1), .second, .val (.int p2), .val (.int (3 : Int32)), .val (.ref b1), .val (.int (0 : Int32)), .val (.int (1 : Int32)), .unset, .unset] [(.int (2 : Int32)), (.int (3 : Int32)), (.ref b1)])) _
              refine XS.iadd X32.here hx rfl (hb hby at_131) rfl ?_
              show Steps p.tables e below (T32.setTop (mkF m 132 #[.val (.long q1), .second, .val (.int p2), .val (.int (3 : Int32)), .val (.ref b1), .val (.int (0 : Int32)), .val (.int (1 : Int32)), .unset, .unset] [(.int (5 : Int32)), (.ref b1)])) _
              refine X32.baloadBytes hx (j := (5 : Int32)) (v := (.int (nar .byte (own_b5 q1)))) (by rw [e32]; exact Ar181.1) (State.isArrayOf_alike hZ.alike Ar181.2.1) Ar181.2.2 hin181 hat181 (g := (mkF m 132 #[.val (.long q1), .second, .val (.int p2), .val (.int (3 : Int32)), .val (.ref b1), .val (.int (0 : Int32)), .val (.int (1 : Int32)), .unset, .unset] [(.int (5 : Int32)), (.ref b1)])) rfl rfl (hb hby at_132) _ ?_
              show Steps p.tables e below (T32.setTop (mkF m 133 #[.val (.long q1), .second, .val (.int p2), .val (.int (3 : Int32)), .val (.ref b1), .val (.int (0 : Int32)), .val (.int (1 : Int32)), .unset, .unset] [(.int (nar .byte (own_b5 q1)))])) _
              refine XS.sipush X32.here hx rfl (hb hby at_133) ?_
              show Steps p.tables e below (T32.setTop (mkF m 136 #[.val (.long q1), .second, .val (.int p2), .val (.int (3 : Int32)), .val (.ref b1), .val (.int (0 : Int32)), .val (.int (1 : Int32)), .unset, .unset] [(.int (128 : Int32)), (.int (nar .byte (own_b5 q1)))])) _
              refine XS.iand X32.here hx rfl (hb hby at_136) rfl ?_
              exact kt
            by_cases hc55 : ((nar .byte (own_b5 q1)) &&& (128 : Int32)) = (0 : Int32)
            ·
              obtain ⟨v183, _, ⟨T183, L183, k183, n183⟩, -, X183, ⟨Lc183, hQ183, l183, y183, z183⟩, st183⟩ := Jvm.LawKit.callS X32 hx (y := (⟨"com/example/castd/castd/mqtt/VariableByteInteger", "length", "([BI)I"⟩ : MethodName)) hown (mvT hZ (hw _ (List.mem_of_getElem? (i := 1) rfl))) (mvT hZ (hw _ (List.mem_of_getElem? (i := 2) rfl))) (mvT hZ (hw _ (List.mem_of_getElem? (i := 3) rfl))) (mvT hZ (hw _ (List.mem_of_getElem? (i := 4) rfl))) (by decide) (backOf (W := 0) (own_v3_rm1 l Z a0 hw [] b1 k1 (nar .byte (own_b0 q1)) (nar .byte (own_b1 q1)) (nar .byte (own_b2 q1)) (nar .byte (own_b3 q1)) (nar .byte (own_b4 q1)) (nar .byte (own_b5 q1)) (nar .byte (own_b6 q1)) (nar .byte (own_b7 q1)) h32 n0 Z34 V_b1_32 (by intro h1 h2 h3; first | contradiction | exact own_clr _)) hZ (hw _ (List.mem_of_getElem? (i := 4) rfl)) (hw _ (List.mem_of_getElem? (i := 3) rfl)) (by decide) (by decide)) (g := (mkF m 217 #[.val (.long q1), .second, .val (.int p2), .val (.int (3 : Int32)), .val (.ref b1), .val (.int (0 : Int32)), .val (.int (1 : Int32)), .val (.int (0 : Int32)), .val (.int (1 : Int32))] [(.int (3 : Int32)), (.ref b1)])) rfl (by rw [hml]; rfl) (argsL := [(.ref b1), (.int (3 : Int32))]) (rest := []) (lenOf own_pd25 rfl) rfl (by show 2 * 0 + _ ≤ _; exact Nat.le_of_eq rfl) (hb hby at_217) (fun _ _ => ⟨rfl, e32, (by decide : 1 + 0 ≤ _), (by decide : 8 + 0 ≤ _)⟩)
              dsimp only [Pt.U, Pt.locs, Pt.cells, Pt.slots] at X183 l183 y183 z183 st183 hQ183
              subst l183 y183 z183
              obtain ⟨rfl, N183q, e183⟩ := hQ183
              have N184 := Fr.app N33 N183q
              have k185 : ∀ t, Steps p.tables e below (T183.setTop (mkF m 222 #[.val (.long q1), .second, .val (.int p2), .val (.int (3 : Int32)), .val (.ref b1), .val (.int (0 : Int32)), .val (.int (1 : Int32)), .val (.int (0 : Int32)), .val (.int (1 : Int32))] [(.int (1 : Int32)), (.int (own_v3_f1 (nar .byte (own_b3 q1)) (nar .byte (own_b4 q1)) (nar .byte (own_b5 q1))))])) t → Steps p.tables e below (s₁.setTop (entryFrame m #[(.long q1), (.int p2)] maxLocals)) t := by
                intro t kt
                refine k182 t ?_
                show Steps p.tables e below (T32.setTop (mkF m 137 #[.val (.long q1), .second, .val (.int p2), .val (.int (3 : Int32)), .val (.ref b1), .val (.int (0 : Int32)), .val (.int (1 : Int32)), .unset, .unset] [(.int ((nar .byte (own_b5 q1)) &&& (128 : Int32)))])) _
                refine XS.ifYes X32.here hx rfl (pc0 := 137) (pc' := 144) rfl (hb hby at_137) rfl ((if0 _ _).trans (teq hc55).1) (by decide) (by decide) ?_
                show Steps p.tables e below (T32.setTop (mkF m 144 #[.val (.long q1), .second, .val (.int p2), .val (.int (3 : Int32)), .val (.ref b1), .val (.int (0 : Int32)), .val (.int (1 : Int32)), .unset, .unset] [])) _
                refine XS.iconst X32.here hx rfl (hb hby at_144) ?_
                show Steps p.tables e below (T32.setTop (mkF m 145 #[.val (.long q1), .second, .val (.int p2), .val (.int (3 : Int32)), .val (.ref b1), .val (.int (0 : Int32)), .val (.int (1 : Int32)), .unset, .unset] [(.int (0 : Int32))])) _
                refine XS.istore X32.here hx rfl (hb hby at_145) rfl (l' := #[.val (.long q1), .second, .val (.int p2), .val (.int (3 : Int32)), .val (.ref b1), .val (.int (0 : Int32)), .val (.int (1 : Int32)), .val (.int (0 : Int32)), .unset]) rfl ?_
                show Steps p.tables e below (T32.setTop (mkF m 147 #[.val (.long q1), .second, .val (.int p2), .val (.int (3 : Int32)), .val (.ref b1), .val (.int (0 : Int32)), .val (.int (1 : Int32)), .val (.int (0 : Int32)), .unset] [])) _
                refine XS.iload X32.here hx rfl (hb hby at_147) rfl ?_
                show Steps p.tables e below (T32.setTop (mkF m 149 #[.val (.long q1), .second, .val (.int p2), .val (.int (3 : Int32)), .val (.ref b1), .val (.int (0 : Int32)), .val (.int (1 : Int32)), .val (.int (0 : Int32)), .unset] [(.int (0 : Int32))])) _
                refine XS.ifYes X32.here hx rfl (pc0 := 149) (pc' := 178) rfl (hb hby at_149) rfl ((if0 _ _).trans (teq (by decide : (0 : Int32) = (0 : Int32))).1) (by decide) (by decide) ?_
                show Steps p.tables e below (T32.setTop (mkF m 178 #[.val (.long q1), .second, .val (.int p2), .val (.int (3 : Int32)), .val (.ref b1), .val (.int (0 : Int32)), .val (.int (1 : Int32)), .val (.int (0 : Int32)), .unset] [])) _
                refine XS.iload X32.here hx rfl (hb hby at_178) rfl ?_
                show Steps p.tables e below (T32.setTop (mkF m 180 #[.val (.long q1), .second, .val (.int p2), .val (.int (3 : Int32)), .val (.ref b1), .val (.int (0 : Int32)), .val (.int (1 : Int32)), .val (.int (0 : Int32)), .unset] [(.int (0 : Int32))])) _
                refine XS.ifNo X32.here hx rfl (hb hby at_180) rfl ((if0 _ _).trans (teq (by decide : (0 : Int32) = (0 : Int32))).2) ?_
                show Steps p.tables e below (T32.setTop (mkF m 183 #[.val (.long q1), .second, .val (.int p2), .val (.int (3 : Int32)), .val (.ref b1), .val (.int (0 : Int32)), .val (.int (1 : Int32)), .val (.int (0 : Int32)), .unset] [])) _
                refine XS.iconst X32.here hx rfl (hb hby at_183) ?_
                show Steps p.tables e below (T32.setTop (mkF m 184 #[.val (.long q1), .second, .val (.int p2), .val (.int (3 : Int32)), .val (.ref b1), .val (.int (0 : Int32)), .val (.int (1 : Int32)), .val (.int (0 : Int32)), .unset] [(.int (1 : Int32))])) _
                refine XS.istore X32.here hx rfl (hb hby at_184) rfl (l' := #[.val (.long q1), .second, .val (.int p2), .val (.int (3 : Int32)), .val (.ref b1), .val (.int (0 : Int32)), .val (.int (1 : Int32)), .val (.int (0 : Int32)), .val (.int (1 : Int32))]) rfl ?_
                show Steps p.tables e below (T32.setTop (mkF m 186 #[.val (.long q1), .second, .val (.int p2), .val (.int (3 : Int32)), .val (.ref b1), .val (.int (0 : Int32)), .val (.int (1 : Int32)), .val (.int (0 : Int32)), .val (.int (1 : Int32))] [])) _
                refine XS.goto X32.here hx rfl (pc0 := 186) (pc' := 214) rfl (hb hby at_186) (by decide) (by decide) ?_
                show Steps p.tables e below (T32.setTop (mkF m 214 #[.val (.long q1), .second, .val (.int p2), .val (.int (3 : Int32)), .val (.ref b1), .val (.int (0 : Int32)), .val (.int (1 : Int32)), .val (.int (0 : Int32)), .val (.int (1 : Int32))] [])) _
                refine XS.aload X32.here hx rfl (hb hby at_214) rfl rfl ?_
                show Steps p.tables e below (T32.setTop (mkF m 216 #[.val (.long q1), .second, .val (.int p2), .val (.int (3 : Int32)), .val (.ref b1), .val (.int (0 : Int32)), .val (.int (1 : Int32)), .val (.int (0 : Int32)), .val (.int (1 : Int32))] [(.ref b1)])) _
                refine XS.iloadN X32.here hx rfl (hb hby at_216) rfl ?_
                show Steps p.tables e below (T32.setTop (mkF m 217 #[.val (.long q1), .second, .val (.int p2), .val (.int (3 : Int32)), .val (.ref b1), .val (.int (0 : Int32)), .val (.int (1 : Int32)), .val (.int (0 : Int32)), .val (.int (1 : Int32))] [(.int (3 : Int32)), (.ref b1)])) _
                refine st183 _ ?_
                show Steps p.tables e below (T183.setTop (mkF m 220 #[.val (.long q1), .second, .val (.int p2), .val (.int (3 : Int32)), .val (.ref b1), .val (.int (0 : Int32)), .val (.int (1 : Int32)), .val (.int (0 : Int32)), .val (.int (1 : Int32))] [(.int (own_v3_f1 (nar .byte (own_b3 q1)) (nar .byte (own_b4 q1)) (nar .byte (own_b5 q1))))])) _
                refine XS.iload X183.here hx rfl (hb hby at_220) rfl ?_
                exact kt
              by_cases hc56 : (own_v3_f1 (nar .byte (own_b3 q1)) (nar .byte (own_b4 q1)) (nar .byte (own_b5 q1))) = (1 : Int32)
              ·
                obtain ⟨fs, hr, hrun, hended, hW, hsame⟩ := X183.leave (v := some (.int (1 : Int32))) (fun h => by rw [Bd.returns] at h; cases h)
                refine ⟨_, _, k185 _ ?_, hrun, hended, _, _, rfl, ?_, ⟨_, rfl⟩, hW, hsame.mono (by decide) (by decide)⟩
                · show Steps p.tables e below (T183.setTop (mkF m 222 #[.val (.long q1), .second, .val (.int p2), .val (.int (3 : Int32)), .val (.ref b1), .val (.int (0 : Int32)), .val (.int (1 : Int32)), .val (.int (0 : Int32)), .val (.int (1 : Int32))] [(.int (1 : Int32)), (.int (own_v3_f1 (nar .byte (own_b3 q1)) (nar .byte (own_b4 q1)) (nar .byte (own_b5 q1))))])) _
                  refine XS.icmpNo X183.here hx rfl (hb hby at_222) rfl (teq hc56).2 ?_
                  show Steps p.tables e below (T183.setTop (mkF m 225 #[.val (.long q1), .second, .val (.int p2), .val (.int (3 : Int32)), .val (.ref b1), .val (.int (0 : Int32)), .val (.int (1 : Int32)), .val (.int (0 : Int32)), .val (.int (1 : Int32))] [])) _
                  refine XS.iconst X183.here hx rfl (hb hby at_225) ?_
                  show Steps p.tables e below (T183.setTop (mkF m 226 #[.val (.long q1), .second, .val (.int p2), .val (.int (3 : Int32)), .val (.ref b1), .val (.int (0 : Int32)), .val (.int (1 : Int32)), .val (.int (0 : Int32)), .val (.int (1 : Int32))] [(.int (1 : Int32))])) _
                  refine XS.goto X183.here hx rfl (pc0 := 226) (pc' := 230) rfl (hb hby at_226) (by decide) (by decide) ?_
                  show Steps p.tables e below (T183.setTop (mkF m 230 #[.val (.long q1), .second, .val (.int p2), .val (.int (3 : Int32)), .val (.ref b1), .val (.int (0 : Int32)), .val (.int (1 : Int32)), .val (.int (0 : Int32)), .val (.int (1 : Int32))] [(.int (1 : Int32))])) _
                  exact retN X183 hx (t := .boolean) Bd.returns (by simp) (hb hby at_230) hr
                · show own_Q0 Z q1 p2 h0 n0 _ T183.heap _
                  rw [e183]
                  exact ⟨(by rw [own_f0, if_neg hc1, if_neg hc17, if_neg hc33, if_pos hc50, if_neg hc51, if_pos hc55, if_pos hc56]), N184⟩
              ·
                obtain ⟨fs, hr, hrun, hended, hW, hsame⟩ := X183.leave (v := some (.int (0 : Int32))) (fun h => by rw [Bd.returns] at h; cases h)
                refine ⟨_, _, k185 _ ?_, hrun, hended, _, _, rfl, ?_, ⟨_, rfl⟩, hW, hsame.mono (by decide) (by decide)⟩
                · show Steps p.tables e below (T183.setTop (mkF m 222 #[.val (.long q1), .second, .val (.int p2), .val (.int (3 : Int32)), .val (.ref b1), .val (.int (0 : Int32)), .val (.int (1 : Int32)), .val (.int (0 : Int32)), .val (.int (1 : Int32))] [(.int (1 : Int32)), (.int (own_v3_f1 (nar .byte (own_b3 q1)) (nar .byte (own_b4 q1)) (nar .byte (own_b5 q1))))])) _
                  refine XS.icmpYes X183.here hx rfl (pc0 := 222) (pc' := 229) rfl (hb hby at_222) rfl (feq hc56).2 (by decide) (by decide) ?_
                  show Steps p.tables e below (T183.setTop (mkF m 229 #[.val (.long q1), .second, .val (.int p2), .val (.int (3 : Int32)), .val (.ref b1), .val (.int (0 : Int32)), .val (.int (1 : Int32)), .val (.int (0 : Int32)), .val (.int (1 : Int32))] [])) _
                  refine XS.iconst X183.here hx rfl (hb hby at_229) ?_
                  show Steps p.tables e below (T183.setTop (mkF m 230 #[.val (.long q1), .second, .val (.int p2), .val (.int (3 : Int32)), .val (.ref b1), .val (.int (0 : Int32)), .val (.int (1 : Int32)), .val (.int (0 : Int32)), .val (.int (1 : Int32))] [(.int (0 : Int32))])) _
                  exact retN X183 hx (t := .boolean) Bd.returns (by simp) (hb hby at_230) hr
                · show own_Q0 Z q1 p2 h0 n0 _ T183.heap _
                  rw [e183]
                  exact ⟨(by rw [own_f0, if_neg hc1, if_neg hc17, if_neg hc33, if_pos hc50, if_neg hc51, if_pos hc55, if_neg hc56]), N184⟩
            ·
              obtain ⟨v186, _, ⟨T186, L186, k186, n186⟩, -, X186, ⟨Lc186, hQ186, l186, y186, z186⟩, st186⟩ := Jvm.LawKit.callS X32 hx (y := (⟨"com/example/castd/castd/mqtt/VariableByteInteger", "length", "([BI)I"⟩ : MethodName)) hown (mvT hZ (hw _ (List.mem_of_getElem? (i := 1) rfl))) (mvT hZ (hw _ (List.mem_of_getElem? (i := 2) rfl))) (mvT hZ (hw _ (List.mem_of_getElem? (i := 3) rfl))) (mvT hZ (hw _ (List.mem_of_getElem? (i := 4) rfl))) (by decide) (backOf (W := 0) (own_v3_rm1 l Z a0 hw [] b1 k1 (nar .byte (own_b0 q1)) (nar .byte (own_b1 q1)) (nar .byte (own_b2 q1)) (nar .byte (own_b3 q1)) (nar .byte (own_b4 q1)) (nar .byte (own_b5 q1)) (nar .byte (own_b6 q1)) (nar .byte (own_b7 q1)) h32 n0 Z34 V_b1_32 (by intro h1 h2 h3; first | contradiction | exact own_clr _)) hZ (hw _ (List.mem_of_getElem? (i := 4) rfl)) (hw _ (List.mem_of_getElem? (i := 3) rfl)) (by decide) (by decide)) (g := (mkF m 217 #[.val (.long q1), .second, .val (.int p2), .val (.int (3 : Int32)), .val (.ref b1), .val (.int (0 : Int32)), .val (.int (1 : Int32)), .val (.int (1 : Int32)), .val (.int (1 : Int32))] [(.int (3 : Int32)), (.ref b1)])) rfl (by rw [hml]; rfl) (argsL := [(.ref b1), (.int (3 : Int32))]) (rest := []) (lenOf own_pd25 rfl) rfl (by show 2 * 0 + _ ≤ _; exact Nat.le_of_eq rfl) (hb hby at_217) (fun _ _ => ⟨rfl, e32, (by decide : 1 + 0 ≤ _), (by decide : 8 + 0 ≤ _)⟩)
              dsimp only [Pt.U, Pt.locs, Pt.cells, Pt.slots] at X186 l186 y186 z186 st186 hQ186
              subst l186 y186 z186
              obtain ⟨rfl, N186q, e186⟩ := hQ186
              have N187 := Fr.app N33 N186q
              have k188 : ∀ t, Steps p.tables e below (T186.setTop (mkF m 222 #[.val (.long q1), .second, .val (.int p2), .val (.int (3 : Int32)), .val (.ref b1), .val (.int (0 : Int32)), .val (.int (1 : Int32)), .val (.int (1 : Int32)), .val (.int (1 : Int32))] [(.int (1 : Int32)), (.int (own_v3_f1 (nar .byte (own_b3 q1)) (nar .byte (own_b4 q1)) (nar .byte (own_b5 q1))))])) t → Steps p.tables e below (s₁.setTop (entryFrame m #[(.long q1), (.int p2)] maxLocals)) t := by
                intro t kt
                refine k182 t ?_
                show Steps p.tables e below (T32.setTop (mkF m 137 #[.val (.long q1), .second, .val (.int p2), .val (.int (3 : Int32)), .val (.ref b1), .val (.int (0 : Int32)), .val (.int (1 : Int32)), .unset, .unset] [(.int ((nar .byte (own_b5 q1)) &&& (128 : Int32)))])) _
                refine XS.ifNo X32.here hx rfl (hb hby at_137) rfl ((if0 _ _).trans (feq hc55).1) ?_
                show Steps p.tables e below (T32.setTop (mkF m 140 #[.val (.long q1), .second, .val (.int p2), .val (.int (3 : Int32)), .val (.ref b1), .val (.int (0 : Int32)), .val (.int (1 : Int32)), .unset, .unset] [])) _
                refine XS.iconst X32.here hx rfl (hb hby at_140) ?_
                show Steps p.tables e below (T32.setTop (mkF m 141 #[.val (.long q1), .second, .val (.int p2), .val (.int (3 : Int32)), .val (.ref b1), .val (.int (0 : Int32)), .val (.int (1 : Int32)), .unset, .unset] [(.int (1 : Int32))])) _
                refine XS.goto X32.here hx rfl (pc0 := 141) (pc' := 145) rfl (hb hby at_141) (by decide) (by decide) ?_
                show Steps p.tables e below (T32.setTop (mkF m 145 #[.val (.long q1), .second, .val (.int p2), .val (.int (3 : Int32)), .val (.ref b1), .val (.int (0 : Int32)), .val (.int (1 : Int32)), .unset, .unset] [(.int (1 : Int32))])) _
                refine XS.istore X32.here hx rfl (hb hby at_145) rfl (l' := #[.val (.long q1), .second, .val (.int p2), .val (.int (3 : Int32)), .val (.ref b1), .val (.int (0 : Int32)), .val (.int (1 : Int32)), .val (.int (1 : Int32)), .unset]) rfl ?_
                show Steps p.tables e below (T32.setTop (mkF m 147 #[.val (.long q1), .second, .val (.int p2), .val (.int (3 : Int32)), .val (.ref b1), .val (.int (0 : Int32)), .val (.int (1 : Int32)), .val (.int (1 : Int32)), .unset] [])) _
                refine XS.iload X32.here hx rfl (hb hby at_147) rfl ?_
                show Steps p.tables e below (T32.setTop (mkF m 149 #[.val (.long q1), .second, .val (.int p2), .val (.int (3 : Int32)), .val (.ref b1), .val (.int (0 : Int32)), .val (.int (1 : Int32)), .val (.int (1 : Int32)), .unset] [(.int (0 : Int32))])) _
                refine XS.ifYes X32.here hx rfl (pc0 := 149) (pc' := 178) rfl (hb hby at_149) rfl ((if0 _ _).trans (teq (by decide : (0 : Int32) = (0 : Int32))).1) (by decide) (by decide) ?_
                show Steps p.tables e below (T32.setTop (mkF m 178 #[.val (.long q1), .second, .val (.int p2), .val (.int (3 : Int32)), .val (.ref b1), .val (.int (0 : Int32)), .val (.int (1 : Int32)), .val (.int (1 : Int32)), .unset] [])) _
                refine XS.iload X32.here hx rfl (hb hby at_178) rfl ?_
                show Steps p.tables e below (T32.setTop (mkF m 180 #[.val (.long q1), .second, .val (.int p2), .val (.int (3 : Int32)), .val (.ref b1), .val (.int (0 : Int32)), .val (.int (1 : Int32)), .val (.int (1 : Int32)), .unset] [(.int (0 : Int32))])) _
                refine XS.ifNo X32.here hx rfl (hb hby at_180) rfl ((if0 _ _).trans (teq (by decide : (0 : Int32) = (0 : Int32))).2) ?_
                show Steps p.tables e below (T32.setTop (mkF m 183 #[.val (.long q1), .second, .val (.int p2), .val (.int (3 : Int32)), .val (.ref b1), .val (.int (0 : Int32)), .val (.int (1 : Int32)), .val (.int (1 : Int32)), .unset] [])) _
                refine XS.iconst X32.here hx rfl (hb hby at_183) ?_
                show Steps p.tables e below (T32.setTop (mkF m 184 #[.val (.long q1), .second, .val (.int p2), .val (.int (3 : Int32)), .val (.ref b1), .val (.int (0 : Int32)), .val (.int (1 : Int32)), .val (.int (1 : Int32)), .unset] [(.int (1 : Int32))])) _
                refine XS.istore X32.here hx rfl (hb hby at_184) rfl (l' := #[.val (.long q1), .second, .val (.int p2), .val (.int (3 : Int32)), .val (.ref b1), .val (.int (0 : Int32)), .val (.int (1 : Int32)), .val (.int (1 : Int32)), .val (.int (1 : Int32))]) rfl ?_
                show Steps p.tables e below (T32.setTop (mkF m 186 #[.val (.long q1), .second, .val (.int p2), .val (.int (3 : Int32)), .val (.ref b1), .val (.int (0 : Int32)), .val (.int (1 : Int32)), .val (.int (1 : Int32)), .val (.int (1 : Int32))] [])) _
                refine XS.goto X32.here hx rfl (pc0 := 186) (pc' := 214) rfl (hb hby at_186) (by decide) (by decide) ?_
                show Steps p.tables e below (T32.setTop (mkF m 214 #[.val (.long q1), .second, .val (.int p2), .val (.int (3 : Int32)), .val (.ref b1), .val (.int (0 : Int32)), .val (.int (1 : Int32)), .val (.int (1 : Int32)), .val (.int (1 : Int32))] [])) _
                refine XS.aload X32.here hx rfl (hb hby at_214) rfl rfl ?_
                show Steps p.tables e below (T32.setTop (mkF m 216 #[.val (.long q1), .second, .val (.int p2), .val (.int (3 : Int32)), .val (.ref b1), .val (.int (0 : Int32)), .val (.int (1 : Int32)), .val (.int (1 : Int32)), .val (.int (1 : Int32))] [(.ref b1)])) _
                refine XS.iloadN X32.here hx rfl (hb hby at_216) rfl ?_
                show Steps p.tables e below (T32.setTop (mkF m 217 #[.val (.long q1), .second, .val (.int p2), .val (.int (3 : Int32)), .val (.ref b1), .val (.int (0 : Int32)), .val (.int (1 : Int32)), .val (.int (1 : Int32)), .val (.int (1 : Int32))] [(.int (3 : Int32)), (.ref b1)])) _
                refine st186 _ ?_
                show Steps p.tables e below (T186.setTop (mkF m 220 #[.val (.long q1), .second, .val (.int p2), .val (.int (3 : Int32)), .val (.ref b1), .val (.int (0 : Int32)), .val (.int (1 : Int32)), .val (.int (1 : Int32)), .val (.int (1 : Int32))] [(.int (own_v3_f1 (nar .byte (own_b3 q1)) (nar .byte (own_b4 q1)) (nar .byte (own_b5 q1))))])) _
                refine XS.iload X186.here hx rfl (hb hby at_220) rfl ?_
                exact kt
              by_cases hc57 : (own_v3_f1 (nar .byte (own_b3 q1)) (nar .byte (own_b4 q1)) (nar .byte (own_b5 q1))) = (1 : Int32)
              ·
                obtain ⟨fs, hr, hrun, hended, hW, hsame⟩ := X186.leave (v := some (.int (1 : Int32))) (fun h => by rw [Bd.returns] at h; cases h)
                refine ⟨_, _, k188 _ ?_, hrun, hended, _, _, rfl, ?_, ⟨_, rfl⟩, hW, hsame.mono (by decide) (by decide)⟩
                · show Steps p.tables e below (T186.setTop (mkF m 222 #[.val (.long q1), .second, .val (.int p2), .val (.int (3 : Int32)), .val (.ref b1), .val (.int (0 : Int32)), .val (.int (1 : Int32)), .val (.int (1 : Int32)), .val (.int (1 : Int32))] [(.int (1 : Int32)), (.int (own_v3_f1 (nar .byte (own_b3 q1)) (nar .byte (own_b4 q1)) (nar .byte (own_b5 q1))))])) _
                  refine XS.icmpNo X186.here hx rfl (hb hby at_222) rfl (teq hc57).2 ?_
                  show Steps p.tables e below (T186.setTop (mkF m 225 #[.val (.long q1), .second, .val (.int p2), .val (.int (3 : Int32)), .val (.ref b1), .val (.int (0 : Int32)), .val (.int (1 : Int32)), .val (.int (1 : Int32)), .val (.int (1 : Int32))] [])) _
                  refine XS.iconst X186.here hx rfl (hb hby at_225) ?_
                  show Steps p.tables e below (T186.setTop (mkF m 226 #[.val (.long q1), .second, .val (.int p2), .val (.int (3 : Int32)), .val (.ref b1), .val (.int (0 : Int32)), .val (.int (1 : Int32)), .val (.int (1 : Int32)), .val (.int (1 : Int32))] [(.int (1 : Int32))])) _
                  refine XS.goto X186.here hx rfl (pc0 := 226) (pc' := 230) rfl (hb hby at_226) (by decide) (by decide) ?_
                  show Steps p.tables e below (T186.setTop (mkF m 230 #[.val (.long q1), .second, .val (.int p2), .val (.int (3 : Int32)), .val (.ref b1), .val (.int (0 : Int32)), .val (.int (1 : Int32)), .val (.int (1 : Int32)), .val (.int (1 : Int32))] [(.int (1 : Int32))])) _
                  exact retN X186 hx (t := .boolean) Bd.returns (by simp) (hb hby at_230) hr
                · show own_Q0 Z q1 p2 h0 n0 _ T186.heap _
                  rw [e186]
                  exact ⟨(by rw [own_f0, if_neg hc1, if_neg hc17, if_neg hc33, if_pos hc50, if_neg hc51, if_neg hc55, if_pos hc57]), N187⟩
              ·
                obtain ⟨fs, hr, hrun, hended, hW, hsame⟩ := X186.leave (v := some (.int (0 : Int32))) (fun h => by rw [Bd.returns] at h; cases h)
                refine ⟨_, _, k188 _ ?_, hrun, hended, _, _, rfl, ?_, ⟨_, rfl⟩, hW, hsame.mono (by decide) (by decide)⟩
                · show Steps p.tables e below (T186.setTop (mkF m 222 #[.val (.long q1), .second, .val (.int p2), .val (.int (3 : Int32)), .val (.ref b1), .val (.int (0 : Int32)), .val (.int (1 : Int32)), .val (.int (1 : Int32)), .val (.int (1 : Int32))] [(.int (1 : Int32)), (.int (own_v3_f1 (nar .byte (own_b3 q1)) (nar .byte (own_b4 q1)) (nar .byte (own_b5 q1))))])) _
                  refine XS.icmpYes X186.here hx rfl (pc0 := 222) (pc' := 229) rfl (hb hby at_222) rfl (feq hc57).2 (by decide) (by decide) ?_
                  show Steps p.tables e below (T186.setTop (mkF m 229 #[.val (.long q1), .second, .val (.int p2), .val (.int (3 : Int32)), .val (.ref b1), .val (.int (0 : Int32)), .val (.int (1 : Int32)), .val (.int (1 : Int32)), .val (.int (1 : Int32))] [])) _
                  refine XS.iconst X186.here hx rfl (hb hby at_229) ?_
                  show Steps p.tables e below (T186.setTop (mkF m 230 #[.val (.long q1), .second, .val (.int p2), .val (.int (3 : Int32)), .val (.ref b1), .val (.int (0 : Int32)), .val (.int (1 : Int32)), .val (.int (1 : Int32)), .val (.int (1 : Int32))] [(.int (0 : Int32))])) _
                  exact retN X186 hx (t := .boolean) Bd.returns (by simp) (hb hby at_230) hr
                · show own_Q0 Z q1 p2 h0 n0 _ T186.heap _
                  rw [e186]
                  exact ⟨(by rw [own_f0, if_neg hc1, if_neg hc17, if_neg hc33, if_pos hc50, if_neg hc51, if_neg hc55, if_neg hc57]), N187⟩
        ·
          obtain ⟨cl189, Ar189, qk189, Sz189, Nn189, Hs189, Gf189⟩ := id V_b1_32
          have hin189 : ¬ ((4 : Int32) < 0 ∨ cl189.slots.size ≤ ((4 : Int32)).toNatClampNeg) := inb_of Sz189 ⟨by decide, by decide⟩
          have hat189 : cl189.slots[((4 : Int32)).toNatClampNeg]? = some (.int (nar .byte (own_b4 q1))) := Has.at Hs189 hin189 rfl
          have k190 : ∀ t, Steps p.tables e below (T32.setTop (mkF m 117 #[.val (.long q1), .second, .val (.int p2), .val (.int (3 : Int32)), .val (.ref b1), .val (.int (1 : Int32)), .unset, .unset, .unset] [(.int ((nar .byte (own_b4 q1)) &&& (128 : Int32)))])) t → Steps p.tables e below (s₁.setTop (entryFrame m #[(.long q1), (.int p2)] maxLocals)) t := by
            intro t kt
            refine k170 t ?_
            show Steps p.tables e below (T32.setTop (mkF m 97 #[.val (.long q1), .second, .val (.int p2), .val (.int (3 : Int32)), .val (.ref b1), .unset, .unset, .unset, .unset] [(.int ((nar .byte (own_b3 q1)) &&& (128 : Int32)))])) _
            refine XS.ifNo X32.here hx rfl (hb hby at_97) rfl ((if0 _ _).trans (feq hc50).1) ?_
            show Steps p.tables e below (T32.setTop (mkF m 100 #[.val (.long q1), .second, .val (.int p2), .val (.int (3 : Int32)), .val (.ref b1), .unset, .unset, .unset, .unset] [])) _
            refine XS.iconst X32.here hx rfl (hb hby at_100) ?_
            show Steps p.tables e below (T32.setTop (mkF m 101 #[.val (.long q1), .second, .val (.int p2), .val (.int (3 : Int32)), .val (.ref b1), .unset, .unset, .unset, .unset] [(.int (1 : Int32))])) _
            refine XS.goto X32.here hx rfl (pc0 := 101) (pc' := 105) rfl (hb hby at_101) (by decide) (by decide) ?_
            show Steps p.tables e below (T32.setTop (mkF m 105 #[.val (.long q1), .second, .val (.int p2), .val (.int (3 : Int32)), .val (.ref b1), .unset, .unset, .unset, .unset] [(.int (1 : Int32))])) _
            refine XS.istore X32.here hx rfl (hb hby at_105) rfl (l' := #[.val (.long q1), .second, .val (.int p2), .val (.int (3 : Int32)), .val (.ref b1), .val (.int (1 : Int32)), .unset, .unset, .unset]) rfl ?_
            show Steps p.tables e below (T32.setTop (mkF m 107 #[.val (.long q1), .second, .val (.int p2), .val (.int (3 : Int32)), .val (.ref b1), .val (.int (1 : Int32)), .unset, .unset, .unset] [])) _
            refine XS.aload X32.here hx rfl (hb hby at_107) rfl rfl ?_
            show Steps p.tables e below (T32.setTop (mkF m 109 #[.val (.long q1), .second, .val (.int p2), .val (.int (3 : Int32)), .val (.ref b1), .val (.int (1 : Int32)), .unset, .unset, .unset] [(.ref b1)])) _
            refine XS.iloadN X32.here hx rfl (hb hby at_109) rfl ?_
            show Steps p.tables e below (T32.setTop (mkF m 110 #[.val (.long q1), .second, .val (.int p2), .val (.int (3 : Int32)), .val (.ref b1), .val (.int (1 : Int32)), .unset, .unset, .unset] [(.int (3 : Int32)), (.ref b1)])) _
            refine XS.iconst X32.here hx rfl (hb hby at_110) ?_
            show Steps p.tables e below (T32.setTop (mkF m 111 #[.val (.long q1), .second, .val (.int p2), .val (.int (3 : Int32)), .val (.ref b1), .val (.int (1 : Int32)), .unset, .unset, .unset] [(.int (1 : Int32)), (.int (3 : Int32)), (.ref b1)])) _
            refine XS.iadd X32.here hx rfl (hb hby at_111) rfl ?_
            show Steps p.tables e below (T32.setTop (mkF m 112 #[.val (.long q1), .second, .val (.int p2), .val (.int (3 : Int32)), .val (.ref b1), .val (.int (1 : Int32)), .unset, .unset, .unset] [(.int (4 : Int32)), (.ref b1)])) _
            refine X32.baloadBytes hx (j := (4 : Int32)) (v := (.int (nar .byte (own_b4 q1)))) (by rw [e32]; exact Ar189.1) (State.isArrayOf_alike hZ.alike Ar189.2.1) Ar189.2.2 hin189 hat189 (g := (mkF m 112 #[.val (.long q1), .second, .val (.int p2), .val (.int (3 : Int32)), .val (.ref b1), .val (.int (1 : Int32)), .unset, .unset, .unset] [(.int (4 : Int32)), (.ref b1)])) rfl rfl (hb hby at_112) _ ?_
            show Steps p.tables e below (T32.setTop (mkF m 113 #[.val (.long q1), .second, .val (.int p2), .val (.int (3 : Int32)), .val (.ref b1), .val (.int (1 : Int32)), .unset, .unset, .unset] [(.int (nar .byte (own_b4 q1)))])) _
            refine XS.sipush X32.here hx rfl (hb hby at_113) ?_
            show Steps p.tables e below (T32.setTop (mkF m 116 #[.val (.long q1), .second, .val (.int p2), .val (.int (3 : Int32)), .val (.ref b1), .val (.int (1 : Int32)), .unset, .unset, .unset] [(.int (128 : Int32)), (.int (nar .byte (own_b4 q1)))])) _
            refine XS.iand X32.here hx rfl (hb hby at_116) rfl ?_
            exact kt
          by_cases hc58 : ((nar .byte (own_b4 q1)) &&& (128 : Int32)) = (0 : Int32)
          ·
            obtain ⟨cl191, Ar191, qk191, Sz191, Nn191, Hs191, Gf191⟩ := id V_b1_32
            have hin191 : ¬ ((5 : Int32) < 0 ∨ cl191.slots.size ≤ ((5 : Int32)).toNatClampNeg) := inb_of Sz191 ⟨by decide, by decide⟩
            have hat191 : cl191.slots[((5 : Int32)).toNatClampNeg]? = some (.int (nar .byte (own_b5 q1))) := Has.at Hs191 hin191 rfl
            have k192 : ∀ t, Steps p.tables e below (T32.setTop (mkF m 137 #[.val (.long q1), .second, .val (.int p2), .val (.int (3 : Int32)), .val (.ref b1), .val (.int (1 : Int32)), .val (.int (0 : Int32)), .unset, .unset] [(.int ((nar .byte (own_b5 q1)) &&& (128 : Int32)))])) t → Steps p.tables e below (s₁.setTop (entryFrame m #[(.long q1), (.int p2)] maxLocals)) t := by
              intro t kt
              refine k190 t ?_
              show Steps p.tables e below (T32.setTop (mkF m 117 #[.val (.long q1), .second, .val (.int p2), .val (.int (3 : Int32)), .val (.ref b1), .val (.int (1 : Int32)), .unset, .unset, .unset] [(.int ((nar .byte (own_b4 q1)) &&& (128 : Int32)))])) _
              refine XS.ifYes X32.here hx rfl (pc0 := 117) (pc' := 124) rfl (hb hby at_117) rfl ((if0 _ _).trans (teq hc58).1) (by decide) (by decide) ?_
              show Steps p.tables e below (T32.setTop (mkF m 124 #[.val (.long q1), .second, .val (.int p2), .val (.int (3 : Int32)), .val (.ref b1), .val (.int (1 : Int32)), .unset, .unset, .unset] [])) _
              refine XS.iconst X32.here hx rfl (hb hby at_124) ?_
              show Steps p.tables e below (T32.setTop (mkF m 125 #[.val (.long q1), .second, .val (.int p2), .val (.int (3 : Int32)), .val (.ref b1), .val (.int (1 : Int32)), .unset, .unset, .unset] [(.int (0 : Int32))])) _
              refine XS.istore X32.here hx rfl (hb hby at_125) rfl (l' := #[.val (.long q1), .second, .val (.int p2), .val (.int (3 : Int32)), .val (.ref b1), .val (.int (1 : Int32)), .val (.int (0 : Int32)), .unset, .unset]) rfl ?_
              show Steps p.tables e below (T32.setTop (mkF m 127 #[.val (.long q1), .second, .val (.int p2), .val (.int (3 : Int32)), .val (.ref b1), .val (.int (1 : Int32)), .val (.int (0 : Int32)), .unset, .unset] [])) _
              refine XS.aload X32.here hx rfl (hb hby at_127) rfl rfl ?_
              show Steps p.tables e below (T32.setTop (mkF m 129 #[.val (.long q1), .second, .val (.int p2), .val (.int (3 : Int32)), .val (.ref b1), .val (.int (1 : Int32)), .val (.int (0 : Int32)), .unset, .unset] [(.ref b1)])) _
              refine XS.iloadN X32.here hx rfl (hb hby at_129) rfl ?_
              show Steps p.tables e below (T32.setTop (mkF m 130 #[.val (.long q1), .second, .val (.int p2), .val (.int (3 : Int32)), .val (.ref b1), .val (.int (1 : Int32)), .val (.int (0 : Int32)), .unset, .unset] [(.int (3 : Int32)), (.ref b1)])) _
              refine XS.iconst X32.here hx rfl (hb hby at_130) ?_
              show Steps p.tables e below (T32.setTop (mkF m 131 #[.val (.long q1), .second, .val (.int p2), .val (.int (3 : Int32)), .val (.ref b1), .val (.int (1 : Int32)), .val (.int (0 : Int32)), .unset, .unset] [(.int (2 : Int32)), (.int (3 : Int32)), (.ref b1)])) _
              refine XS.iadd X32.here hx rfl (hb hby at_131) rfl ?_
              show Steps p.tables e below (T32.setTop (mkF m 132 #[.val (.long q1), .second, .val (.int p2), .val (.int (3 : Int32)), .val (.ref b1), .val (.int (1 : Int32)), .val (.int (0 : Int32)), .unset, .unset] [(.int (5 : Int32)), (.ref b1)])) _
              refine X32.baloadBytes hx (j := (5 : Int32)) (v := (.int (nar .byte (own_b5 q1)))) (by rw [e32]; exact Ar191.1) (State.isArrayOf_alike hZ.alike Ar191.2.1) Ar191.2.2 hin191 hat191 (g := (mkF m 132 #[.val (.long q1), .second, .val (.int p2), .val (.int (3 : Int32)), .val (.ref b1), .val (.int (1 : Int32)), .val (.int (0 : Int32)), .unset, .unset] [(.int (5 : Int32)), (.ref b1)])) rfl rfl (hb hby at_132) _ ?_
              show Steps p.tables e below (T32.setTop (mkF m 133 #[.val (.long q1), .second, .val (.int p2), .val (.int (3 : Int32)), .val (.ref b1), .val (.int (1 : Int32)), .val (.int (0 : Int32)), .unset, .unset] [(.int (nar .byte (own_b5 q1)))])) _
              refine XS.sipush X32.here hx rfl (hb hby at_133) ?_
              show Steps p.tables e below (T32.setTop (mkF m 136 #[.val (.long q1), .second, .val (.int p2), .val (.int (3 : Int32)), .val (.ref b1), .val (.int (1 : Int32)), .val (.int (0 : Int32)), .unset, .unset] [(.int (128 : Int32)), (.int (nar .byte (own_b5 q1)))])) _
              refine XS.iand X32.here hx rfl (hb hby at_136) rfl ?_
              exact kt
            by_cases hc59 : ((nar .byte (own_b5 q1)) &&& (128 : Int32)) = (0 : Int32)
            ·
              obtain ⟨v193, _, ⟨T193, L193, k193, n193⟩, -, X193, ⟨Lc193, hQ193, l193, y193, z193⟩, st193⟩ := Jvm.LawKit.callS X32 hx (y := (⟨"com/example/castd/castd/mqtt/VariableByteInteger", "length", "([BI)I"⟩ : MethodName)) hown (mvT hZ (hw _ (List.mem_of_getElem? (i := 1) rfl))) (mvT hZ (hw _ (List.mem_of_getElem? (i := 2) rfl))) (mvT hZ (hw _ (List.mem_of_getElem? (i := 3) rfl))) (mvT hZ (hw _ (List.mem_of_getElem? (i := 4) rfl))) (by decide) (backOf (W := 0) (own_v3_rm1 l Z a0 hw [] b1 k1 (nar .byte (own_b0 q1)) (nar .byte (own_b1 q1)) (nar .byte (own_b2 q1)) (nar .byte (own_b3 q1)) (nar .byte (own_b4 q1)) (nar .byte (own_b5 q1)) (nar .byte (own_b6 q1)) (nar .byte (own_b7 q1)) h32 n0 Z34 V_b1_32 (by intro h1 h2 h3; first | contradiction | exact own_clr _)) hZ (hw _ (List.mem_of_getElem? (i := 4) rfl)) (hw _ (List.mem_of_getElem? (i := 3) rfl)) (by decide) (by decide)) (g := (mkF m 217 #[.val (.long q1), .second, .val (.int p2), .val (.int (3 : Int32)), .val (.ref b1), .val (.int (1 : Int32)), .val (.int (0 : Int32)), .val (.int (0 : Int32)), .val (.int (2 : Int32))] [(.int (3 : Int32)), (.ref b1)])) rfl (by rw [hml]; rfl) (argsL := [(.ref b1), (.int (3 : Int32))]) (rest := []) (lenOf own_pd25 rfl) rfl (by show 2 * 0 + _ ≤ _; exact Nat.le_of_eq rfl) (hb hby at_217) (fun _ _ => ⟨rfl, e32, (by decide : 1 + 0 ≤ _), (by decide : 8 + 0 ≤ _)⟩)
              dsimp only [Pt.U, Pt.locs, Pt.cells, Pt.slots] at X193 l193 y193 z193 st193 hQ193
              subst l193 y193 z193
              obtain ⟨rfl, N193q, e193⟩ := hQ193
              have N194 := Fr.app N33 N193q
              have k195 : ∀ t, Steps p.tables e below (T193.setTop (mkF m 222 #[.val (.long q1), .second, .val (.int p2), .val (.int (3 : Int32)), .val (.ref b1), .val (.int (1 : Int32)), .val (.int (0 : Int32)), .val (.int (0 : Int32)), .val (.int (2 : Int32))] [(.int (2 : Int32)), (.int (own_v3_f1 (nar .byte (own_b3 q1)) (nar .byte (own_b4 q1)) (nar .byte (own_b5 q1))))])) t → Steps p.tables e below (s₁.setTop (entryFrame m #[(.long q1), (.int p2)] maxLocals)) t := by
                intro t kt
                refine k192 t ?_
                show Steps p.tables e below (T32.setTop (mkF m 137 #[.val (.long q1), .second, .val (.int p2), .val (.int (3 : Int32)), .val (.ref b1), .val (.int (1 : Int32)), .val (.int (0 : Int32)), .unset, .unset] [(.int ((nar .byte (own_b5 q1)) &&& (128 : Int32)))])) _
                refine XS.ifYes X32.here hx rfl (pc0 := 137) (pc' := 144) rfl (hb hby at_137) rfl ((if0 _ _).trans (teq hc59).1) (by decide) (by decide) ?_
                show Steps p.tables e below (T32.setTop (mkF m 144 #[.val (.long q1), .second, .val (.int p2), .val (.int (3 : Int32)), .val (.ref b1), .val (.int (1 : Int32)), .val (.int (0 : Int32)), .unset, .unset] [])) _
                refine XS.iconst X32.here hx rfl (hb hby at_144) ?_
                show Steps p.tables e below (T32.setTop (mkF m 145 #[.val (.long q1), .second, .val (.int p2), .val (.int (3 : Int32)), .val (.ref b1), .val (.int (1 : Int32)), .val (.int (0 : Int32)), .unset, .unset] [(.int (0 : Int32))])) _
                refine XS.istore X32.here hx rfl (hb hby at_145) rfl (l' := #[.val (.long q1), .second, .val (.int p2), .val (.int (3 : Int32)), .val (.ref b1), .val (.int (1 : Int32)), .val (.int (0 : Int32)), .val (.int (0 : Int32)), .unset]) rfl ?_
                show Steps p.tables e below (T32.setTop (mkF m 147 #[.val (.long q1), .second, .val (.int p2), .val (.int (3 : Int32)), .val (.ref b1), .val (.int (1 : Int32)), .val (.int (0 : Int32)), .val (.int (0 : Int32)), .unset] [])) _
                refine XS.iload X32.here hx rfl (hb hby at_147) rfl ?_
                show Steps p.tables e below (T32.setTop (mkF m 149 #[.val (.long q1), .second, .val (.int p2), .val (.int (3 : Int32)), .val (.ref b1), .val (.int (1 : Int32)), .val (.int (0 : Int32)), .val (.int (0 : Int32)), .unset] [(.int (1 : Int32))])) _
                refine XS.ifNo X32.here hx rfl (hb hby at_149) rfl ((if0 _ _).trans (feq (by decide : ¬ ((1 : Int32) = (0 : Int32)))).1) ?_
                show Steps p.tables e below (T32.setTop (mkF m 152 #[.val (.long q1), .second, .val (.int p2), .val (.int (3 : Int32)), .val (.ref b1), .val (.int (1 : Int32)), .val (.int (0 : Int32)), .val (.int (0 : Int32)), .unset] [])) _
                refine XS.iload X32.here hx rfl (hb hby at_152) rfl ?_
                show Steps p.tables e below (T32.setTop (mkF m 154 #[.val (.long q1), .second, .val (.int p2), .val (.int (3 : Int32)), .val (.ref b1), .val (.int (1 : Int32)), .val (.int (0 : Int32)), .val (.int (0 : Int32)), .unset] [(.int (0 : Int32))])) _
                refine XS.ifYes X32.here hx rfl (pc0 := 154) (pc' := 178) rfl (hb hby at_154) rfl ((if0 _ _).trans (teq (by decide : (0 : Int32) = (0 : Int32))).1) (by decide) (by decide) ?_
                show Steps p.tables e below (T32.setTop (mkF m 178 #[.val (.long q1), .second, .val (.int p2), .val (.int (3 : Int32)), .val (.ref b1), .val (.int (1 : Int32)), .val (.int (0 : Int32)), .val (.int (0 : Int32)), .unset] [])) _
                refine XS.iload X32.here hx rfl (hb hby at_178) rfl ?_
                show Steps p.tables e below (T32.setTop (mkF m 180 #[.val (.long q1), .second, .val (.int p2), .val (.int (3 : Int32)), .val (.ref b1), .val (.int (1 : Int32)), .val (.int (0 : Int32)), .val (.int (0 : Int32)), .unset] [(.int (1 : Int32))])) _
                refine XS.ifYes X32.here hx rfl (pc0 := 180) (pc' := 189) rfl (hb hby at_180) rfl ((if0 _ _).trans (feq (by decide : ¬ ((1 : Int32) = (0 : Int32)))).2) (by decide) (by decide) ?_
                show Steps p.tables e below (T32.setTop (mkF m 189 #[.val (.long q1), .second, .val (.int p2), .val (.int (3 : Int32)), .val (.ref b1), .val (.int (1 : Int32)), .val (.int (0 : Int32)), .val (.int (0 : Int32)), .unset] [])) _
                refine XS.iload X32.here hx rfl (hb hby at_189) rfl ?_
                show Steps p.tables e below (T32.setTop (mkF m 191 #[.val (.long q1), .second, .val (.int p2), .val (.int (3 : Int32)), .val (.ref b1), .val (.int (1 : Int32)), .val (.int (0 : Int32)), .val (.int (0 : Int32)), .unset] [(.int (0 : Int32))])) _
                refine XS.ifNo X32.here hx rfl (hb hby at_191) rfl ((if0 _ _).trans (teq (by decide : (0 : Int32) = (0 : Int32))).2) ?_
                show Steps p.tables e below (T32.setTop (mkF m 194 #[.val (.long q1), .second, .val (.int p2), .val (.int (3 : Int32)), .val (.ref b1), .val (.int (1 : Int32)), .val (.int (0 : Int32)), .val (.int (0 : Int32)), .unset] [])) _
                refine XS.iconst X32.here hx rfl (hb hby at_194) ?_
                show Steps p.tables e below (T32.setTop (mkF m 195 #[.val (.long q1), .second, .val (.int p2), .val (.int (3 : Int32)), .val (.ref b1), .val (.int (1 : Int32)), .val (.int (0 : Int32)), .val (.int (0 : Int32)), .unset] [(.int (2 : Int32))])) _
                refine XS.istore X32.here hx rfl (hb hby at_195) rfl (l' := #[.val (.long q1), .second, .val (.int p2), .val (.int (3 : Int32)), .val (.ref b1), .val (.int (1 : Int32)), .val (.int (0 : Int32)), .val (.int (0 : Int32)), .val (.int (2 : Int32))]) rfl ?_
                show Steps p.tables e below (T32.setTop (mkF m 197 #[.val (.long q1), .second, .val (.int p2), .val (.int (3 : Int32)), .val (.ref b1), .val (.int (1 : Int32)), .val (.int (0 : Int32)), .val (.int (0 : Int32)), .val (.int (2 : Int32))] [])) _
                refine XS.goto X32.here hx rfl (pc0 := 197) (pc' := 214) rfl (hb hby at_197) (by decide) (by decide) ?_
                show Steps p.tables e below (T32.setTop (mkF m 214 #[.val (.long q1), .second, .val (.int p2), .val (.int (3 : Int32)), .val (.ref b1), .val (.int (1 : Int32)), .val (.int (0 : Int32)), .val (.int (0 : Int32)), .val (.int (2 : Int32))] [])) _
                refine XS.aload X32.here hx rfl (hb hby at_214) rfl rfl ?_
                show Steps p.tables e below (T32.setTop (mkF m 216 #[.val (.long q1), .second, .val (.int p2), .val (.int (3 : Int32)), .val (.ref b1), .val (.int (1 : Int32)), .val (.int (0 : Int32)), .val (.int (0 : Int32)), .val (.int (2 : Int32))] [(.ref b1)])) _
                refine XS.iloadN X32.here hx rfl (hb hby at_216) rfl ?_
                show Steps p.tables e below (T32.setTop (mkF m 217 #[.val (.long q1), .second, .val (.int p2), .val (.int (3 : Int32)), .val (.ref b1), .val (.int (1 : Int32)), .val (.int (0 : Int32)), .val (.int (0 : Int32)), .val (.int (2 : Int32))] [(.int (3 : Int32)), (.ref b1)])) _
                refine st193 _ ?_
                show Steps p.tables e below (T193.setTop (mkF m 220 #[.val (.long q1), .second, .val (.int p2), .val (.int (3 : Int32)), .val (.ref b1), .val (.int (1 : Int32)), .val (.int (0 : Int32)), .val (.int (0 : Int32)), .val (.int (2 : Int32))] [(.int (own_v3_f1 (nar .byte (own_b3 q1)) (nar .byte (own_b4 q1)) (nar .byte (own_b5 q1))))])) _
                refine XS.iload X193.here hx rfl (hb hby at_220) rfl ?_
                exact kt
              by_cases hc60 : (own_v3_f1 (nar .byte (own_b3 q1)) (nar .byte (own_b4 q1)) (nar .byte (own_b5 q1))) = (2 : Int32)
              ·
                obtain ⟨fs, hr, hrun, hended, hW, hsame⟩ := X193.leave (v := some (.int (1 : Int32))) (fun h => by rw [Bd.returns] at h; cases h)
                refine ⟨_, _, k195 _ ?_, hrun, hended, _, _, rfl, ?_, ⟨_, rfl⟩, hW, hsame.mono (by decide) (by decide)⟩
                · show Steps p.tables e below (T193.setTop (mkF m 222 #[.val (.long q1), .second, .val (.int p2), .val (.int (3 : Int32)), .val (.ref b1), .val (.int (1 : Int32)), .val (.int (0 : Int32)), .val (.int (0 : Int32)), .val (.int (2 : Int32))] [(.int (2 : Int32)), (.int (own_v3_f1 (nar .byte (own_b3 q1)) (nar .byte (own_b4 q1)) (nar .byte (own_b5 q1))))])) _
                  refine XS.icmpNo X193.here hx rfl (hb hby at_222) rfl (teq hc60).2 ?_
                  show Steps p.tables e below (T193.setTop (mkF m 225 #[.val (.long q1), .second, .val (.int p2), .val (.int (3 : Int32)), .val (.ref b1), .val (.int (1 : Int32)), .val (.int (0 : Int32)), .val (.int (0 : Int32)), .val (.int (2 : Int32))] [])) _
                  refine XS.iconst X193.here hx rfl (hb hby at_225) ?_
                  show Steps p.tables e below (T193.setTop (mkF m 226 #[.val (.long q1), .second, .val (.int p2), .val (.int (3 : Int32)), .val (.ref b1), .val (.int (1 : Int32)), .val (.int (0 : Int32)), .val (.int (0 : Int32)), .val (.int (2 : Int32))] [(.int (1 : Int32))])) _
                  refine XS.goto X193.here hx rfl (pc0 := 226) (pc' := 230) rfl (hb hby at_226) (by decide) (by decide) ?_
                  show Steps p.tables e below (T193.setTop (mkF m 230 #[.val (.long q1), .second, .val (.int p2), .val (.int (3 : Int32)), .val (.ref b1), .val (.int (1 : Int32)), .val (.int (0 : Int32)), .val (.int (0 : Int32)), .val (.int (2 : Int32))] [(.int (1 : Int32))])) _
                  exact retN X193 hx (t := .boolean) Bd.returns (by simp) (hb hby at_230) hr
                · show own_Q0 Z q1 p2 h0 n0 _ T193.heap _
                  rw [e193]
                  exact ⟨(by rw [own_f0, if_neg hc1, if_neg hc17, if_neg hc33, if_neg hc50, if_pos hc58, if_pos hc59, if_pos hc60]), N194⟩
              ·
                obtain ⟨fs, hr, hrun, hended, hW, hsame⟩ := X193.leave (v := some (.int (0 : Int32))) (fun h => by rw [Bd.returns] at h; cases h)
                refine ⟨_, _, k195 _ ?_, hrun, hended, _, _, rfl, ?_, ⟨_, rfl⟩, hW, hsame.mono (by decide) (by decide)⟩
                · show Steps p.tables e below (T193.setTop (mkF m 222 #[.val (.long q1), .second, .val (.int p2), .val (.int (3 : Int32)), .val (.ref b1), .val (.int (1 : Int32)), .val (.int (0 : Int32)), .val (.int (0 : Int32)), .val (.int (2 : Int32))] [(.int (2 : Int32)), (.int (own_v3_f1 (nar .byte (own_b3 q1)) (nar .byte (own_b4 q1)) (nar .byte (own_b5 q1))))])) _
                  refine XS.icmpYes X193.here hx rfl (pc0 := 222) (pc' := 229) rfl (hb hby at_222) rfl (feq hc60).2 (by decide) (by decide) ?_
                  show Steps p.tables e below (T193.setTop (mkF m 229 #[.val (.long q1), .second, .val (.int p2), .val (.int (3 : Int32)), .val (.ref b1), .val (.int (1 : Int32)), .val (.int (0 : Int32)), .val (.int (0 : Int32)), .val (.int (2 : Int32))] [])) _
                  refine XS.iconst X193.here hx rfl (hb hby at_229) ?_
                  show Steps p.tables e below (T193.setTop (mkF m 230 #[.val (.long q1), .second, .val (.int p2), .val (.int (3 : Int32)), .val (.ref b1), .val (.int (1 : Int32)), .val (.int (0 : Int32)), .val (.int (0 : Int32)), .val (.int (2 : Int32))] [(.int (0 : Int32))])) _
                  exact retN X193 hx (t := .boolean) Bd.returns (by simp) (hb hby at_230) hr
                · show own_Q0 Z q1 p2 h0 n0 _ T193.heap _
                  rw [e193]
                  exact ⟨(by rw [own_f0, if_neg hc1, if_neg hc17, if_neg hc33, if_neg hc50, if_pos hc58, if_pos hc59, if_neg hc60]), N194⟩
            ·
              obtain ⟨v196, _, ⟨T196, L196, k196, n196⟩, -, X196, ⟨Lc196, hQ196, l196, y196, z196⟩, st196⟩ := Jvm.LawKit.callS X32 hx (y := (⟨"com/example/castd/castd/mqtt/VariableByteInteger", "length", "([BI)I"⟩ : MethodName)) hown (mvT hZ (hw _ (List.mem_of_getElem? (i := 1) rfl))) (mvT hZ (hw _ (List.mem_of_getElem? (i := 2) rfl))) (mvT hZ (hw _ (List.mem_of_getElem? (i := 3) rfl))) (mvT hZ (hw _ (List.mem_of_getElem? (i := 4) rfl))) (by decide) (backOf (W := 0) (own_v3_rm1 l Z a0 hw [] b1 k1 (nar .byte (own_b0 q1)) (nar .byte (own_b1 q1)) (nar .byte (own_b2 q1)) (nar .byte (own_b3 q1)) (nar .byte (own_b4 q1)) (nar .byte (own_b5 q1)) (nar .byte (own_b6 q1)) (nar .byte (own_b7 q1)) h32 n0 Z34 V_b1_32 (by intro h1 h2 h3; first | contradiction | exact own_clr _)) hZ (hw _ (List.mem_of_getElem? (i := 4) rfl)) (hw _ (List.mem_of_getElem? (i := 3) rfl)) (by decide) (by decide)) (g := (mkF m 217 #[.val (.long q1), .second, .val (.int p2), .val (.int (3 : Int32)), .val (.ref b1), .val (.int (1 : Int32)), .val (.int (0 : Int32)), .val (.int (1 : Int32)), .val (.int (2 : Int32))] [(.int (3 : Int32)), (.ref b1)])) rfl (by rw [hml]; rfl) (argsL := [(.ref b1), (.int (3 : Int32))]) (rest := []) (lenOf own_pd25 rfl) rfl (by show 2 * 0 + _ ≤ _; exact Nat.le_of_eq rfl) (hb hby at_217) (fun _ _ => ⟨rfl, e32, (by decide : 1 + 0 ≤ _), (by decide : 8 + 0 ≤ _)⟩)
              dsimp only [Pt.U, Pt.locs, Pt.cells, Pt.slots] at X196 l196 y196 z196 st196 hQ196
              subst l196 y196 z196
              obtain ⟨rfl, N196q, e196⟩ := hQ196
              have N197 := Fr.app N33 N196q
              have k198 : ∀ t, Steps p.tables e below (T196.setTop (mkF m 222 #[.val (.long q1), .second, .val (.int p2), .val (.int (3 : Int32)), .val (.ref b1), .val (.int (1 : Int32)), .val (.int (0 : Int32)), .val (.int (1 : Int32)), .val (.int (2 : Int32))] [(.int (2 : Int32)), (.int (own_v3_f1 (nar .byte (own_b3 q1)) (nar .byte (own_b4 q1)) (nar .byte (own_b5 q1))))])) t → Steps p.tables e below (s₁.setTop (entryFrame m #[(.long q1), (.int p2)] maxLocals)) t := by
                intro t kt
                refine k192 t ?_
                show Steps p.tables e below (T32.setTop (mkF m 137 #[.val (.long q1), .second, .val (.int p2), .val (.int (3 : Int32)), .val (.ref b1), .val (.int (1 : Int32)), .val (.int (0 : Int32)), .unset, .unset] [(.int ((nar .byte (own_b5 q1)) &&& (128 : Int32)))])) _
                refine XS.ifNo X32.here hx rfl (hb hby at_137) rfl ((if0 _ _).trans (feq hc59).1) ?_
                show Steps p.tables e below (T32.setTop (mkF m 140 #[.val (.long q1), .second, .val (.int p2), .val (.int (3 : Int32)), .val (.ref b1), .val (.int (1 : Int32)), .val (.int (0 : Int32)), .unset, .unset] [])) _
                refine XS.iconst X32.here hx rfl (hb hby at_140) ?_
                show Steps p.tables e below (T32.setTop (mkF m 141 #[.val (.long q1), .second, .val (.int p2), .val (.int (3 : Int32)), .val (.ref b1), .val (.int (1 : Int32)), .val (.int (0 : Int32)), .unset, .unset] [(.int (1 : Int32))])) _
                refine XS.goto X32.here hx rfl (pc0 := 141) (pc' := 145) rfl (hb hby at_141) (by decide) (by decide) ?_
                show Steps p.tables e below (T32.setTop (mkF m 145 #[.val (.long q1), .second, .val (.int p2), .val (.int (3 : Int32)), .val (.ref b1), .val (.int (1 : Int32)), .val (.int (0 : Int32)), .unset, .unset] [(.int (1 : Int32))])) _
                refine XS.istore X32.here hx rfl (hb hby at_145) rfl (l' := #[.val (.long q1), .second, .val (.int p2), .val (.int (3 : Int32)), .val (.ref b1), .val (.int (1 : Int32)), .val (.int (0 : Int32)), .val (.int (1 : Int32)), .unset]) rfl ?_
                show Steps p.tables e below (T32.setTop (mkF m 147 #[.val (.long q1), .second, .val (.int p2), .val (.int (3 : Int32)), .val (.ref b1), .val (.int (1 : Int32)), .val (.int (0 : Int32)), .val (.int (1 : Int32)), .unset] [])) _
                refine XS.iload X32.here hx rfl (hb hby at_147) rfl ?_
                show Steps p.tables e below (T32.setTop (mkF m 149 #[.val (.long q1), .second, .val (.int p2), .val (.int (3 : Int32)), .val (.ref b1), .val (.int (1 : Int32)), .val (.int (0 : Int32)), .val (.int (1 : Int32)), .unset] [(.int (1 : Int32))])) _
                refine XS.ifNo X32.here hx rfl (hb hby at_149) rfl ((if0 _ _).trans (feq (by decide : ¬ ((1 : Int32) = (0 : Int32)))).1) ?_
                show Steps p.tables e below (T32.setTop (mkF m 152 #[.val (.long q1), .second, .val (.int p2), .val (.int (3 : Int32)), .val (.ref b1), .val (.int (1 : Int32)), .val (.int (0 : Int32)), .val (.int (1 : Int32)), .unset] [])) _
                refine XS.iload X32.here hx rfl (hb hby at_152) rfl ?_
                show Steps p.tables e below (T32.setTop (mkF m 154 #[.val (.long q1), .second, .val (.int p2), .val (.int (3 : Int32)), .val (.ref b1), .val (.int (1 : Int32)), .val (.int (0 : Int32)), .val (.int (1 : Int32)), .unset] [(.int (0 : Int32))])) _
                refine XS.ifYes X32.here hx rfl (pc0 := 154) (pc' := 178) rfl (hb hby at_154) rfl ((if0 _ _).trans (teq (by decide : (0 : Int32) = (0 : Int32))).1) (by decide) (by decide) ?_
                show Steps p.tables e below (T32.setTop (mkF m 178 #[.val (.long q1), .second, .val (.int p2), .val (.int (3 : Int32)), .val (.ref b1), .val (.int (1 : Int32)), .val (.int (0 : Int32)), .val (.int (1 : Int32)), .unset] [])) _
                refine XS.iload X32.here hx rfl (hb hby at_178) rfl ?_
                show Steps p.tables e below (T32.setTop (mkF m 180 #[.val (.long q1), .second, .val (.int p2), .val (.int (3 : Int32)), .val (.ref b1), .val (.int (1 : Int32)), .val (.int (0 : Int32)), .val (.int (1 : Int32)), .unset] [(.int (1 : Int32))])) _
                refine XS.ifYes X32.here hx rfl (pc0 := 180) (pc' := 189) rfl (hb hby at_180) rfl ((if0 _ _).trans (feq (by decide : ¬ ((1 : Int32) = (0 : Int32)))).2) (by decide) (by decide) ?_
                show Steps p.tables e below (T32.setTop (mkF m 189 #[.val (.long q1), .second, .val (.int p2), .val (.int (3 : Int32)), .val (.ref b1), .val (.int (1 : Int32)), .val (.int (0 : Int32)), .val (.int (1 : Int32)), .unset] [])) _
                refine XS.iload X32.here hx rfl (hb hby at_189) rfl ?_
                show Steps p.tables e below (T32.setTop (mkF m 191 #[.val (.long q1), .second, .val (.int p2), .val (.int (3 : Int32)), .val (.ref b1), .val (.int (1 : Int32)), .val (.int (0 : Int32)), .val (.int (1 : Int32)), .unset] [(.int (0 : Int32))])) _
                refine XS.ifNo X32.here hx rfl (hb hby at_191) rfl ((if0 _ _).trans (teq (by decide : (0 : Int32) = (0 : Int32))).2) ?_
                show Steps p.tables e below (T32.setTop (mkF m 194 #[.val (.long q1), .second, .val (.int p2), .val (.int (3 : Int32)), .val (.ref b1), .val (.int (1 : Int32)), .val (.int (0 : Int32)), .val (.int (1 : Int32)), .unset] [])) _
                refine XS.iconst X32.here hx rfl (hb hby at_194) ?_
                show Steps p.tables e below (T32.setTop (mkF m 195 #[.val (.long q1), .second, .val (.int p2), .val (.int (3 : Int32)), .val (.ref b1), .val (.int (1 : Int32)), .val (.int (0 : Int32)), .val (.int (1 : Int32)), .unset] [(.int (2 : Int32))])) _
                refine XS.istore X32.here hx rfl (hb hby at_195) rfl (l' := #[.val (.long q1), .second, .val (.int p2), .val (.int (3 : Int32)), .val (.ref b1), .val (.int (1 : Int32)), .val (.int (0 : Int32)), .val (.int (1 : Int32)), .val (.int (2 : Int32))]) rfl ?_
                show Steps p.tables e below (T32.setTop (mkF m 197 #[.val (.long q1), .second, .val (.int p2), .val (.int (3 : Int32)), .val (.ref b1), .val (.int (1 : Int32)), .val (.int (0 : Int32)), .val (.int (1 : Int32)), .val (.int (2 : Int32))] [])) _
                refine XS.goto X32.here hx rfl (pc0 := 197) (pc' := 214) rfl (hb hby at_197) (by decide) (by decide) ?_
                show Steps p.tables e below (T32.setTop (mkF m 214 #[.val (.long q1), .second, .val (.int p2), .val (.int (3 : Int32)), .val (.ref b1), .val (.int (1 : Int32)), .val (.int (0 : Int32)), .val (.int (1 : Int32)), .val (.int (2 : Int32))] [])) _
                refine XS.aload X32.here hx rfl (hb hby at_214) rfl rfl ?_
                show Steps p.tables e below (T32.setTop (mkF m 216 #[.val (.long q1), .second, .val (.int p2), .val (.int (3 : Int32)), .val (.ref b1), .val (.int (1 : Int32)), .val (.int (0 : Int32)), .val (.int (1 : Int32)), .val (.int (2 : Int32))] [(.ref b1)])) _
                refine XS.iloadN X32.here hx rfl (hb hby at_216) rfl ?_
                show Steps p.tables e below (T32.setTop (mkF m 217 #[.val (.long q1), .second, .val (.int p2), .val (.int (3 : Int32)), .val (.ref b1), .val (.int (1 : Int32)), .val (.int (0 : Int32)), .val (.int (1 : Int32)), .val (.int (2 : Int32))] [(.int (3 : Int32)), (.ref b1)])) _
                refine st196 _ ?_
                show Steps p.tables e below (T196.setTop (mkF m 220 #[.val (.long q1), .second, .val (.int p2), .val (.int (3 : Int32)), .val (.ref b1), .val (.int (1 : Int32)), .val (.int (0 : Int32)), .val (.int (1 : Int32)), .val (.int (2 : Int32))] [(.int (own_v3_f1 (nar .byte (own_b3 q1)) (nar .byte (own_b4 q1)) (nar .byte (own_b5 q1))))])) _
                refine XS.iload X196.here hx rfl (hb hby at_220) rfl ?_
                exact kt
              by_cases hc61 : (own_v3_f1 (nar .byte (own_b3 q1)) (nar .byte (own_b4 q1)) (nar .byte (own_b5 q1))) = (2 : Int32)
              ·
                obtain ⟨fs, hr, hrun, hended, hW, hsame⟩ := X196.leave (v := some (.int (1 : Int32))) (fun h => by rw [Bd.returns] at h; cases h)
                refine ⟨_, _, k198 _ ?_, hrun, hended, _, _, rfl, ?_, ⟨_, rfl⟩, hW, hsame.mono (by decide) (by decide)⟩
                · show Steps p.tables e below (T196.setTop (mkF m 222 #[.val (.long q1), .second, .val (.int p2), .val (.int (3 : Int32)), .val (.ref b1), .val (.int (1 : Int32)), .val (.int (0 : Int32)), .val (.int (1 : Int32)), .val (.int (2 : Int32))] [(.int (2 : Int32)), (.int (own_v3_f1 (nar .byte (own_b3 q1)) (nar .byte (own_b4 q1)) (nar .byte (own_b5 q1))))])) _
                  refine XS.icmpNo X196.here hx rfl (hb hby at_222) rfl (teq hc61).2 ?_
                  show Steps p.tables e below (T196.setTop (mkF m 225 #[.val (.long q1), .second, .val (.int p2), .val (.int (3 : Int32)), .val (.ref b1), .val (.int (1 : Int32)), .val (.int (0 : Int32)), .val (.int (1 : Int32)), .val (.int (2 : Int32))] [])) _
                  refine XS.iconst X196.here hx rfl (hb hby at_225) ?_
                  show Steps p.tables e below (T196.setTop (mkF m 226 #[.val (.long q1), .second, .val (.int p2), .val (.int (3 : Int32)), .val (.ref b1), .val (.int (1 : Int32)), .val (.int (0 : Int32)), .val (.int (1 : Int32)), .val (.int (2 : Int32))] [(.int (1 : Int32))])) _
                  refine XS.goto X196.here hx rfl (pc0 := 226) (pc' := 230) rfl (hb hby at_226) (by decide) (by decide) ?_
                  show Steps p.tables e below (T196.setTop (mkF m 230 #[.val (.long q1), .second, .val (.int p2), .val (.int (3 : Int32)), .val (.ref b1), .val (.int (1 : Int32)), .val (.int (0 : Int32)), .val (.int (1 : Int32)), .val (.int (2 : Int32))] [(.int (1 : Int32))])) _
                  exact retN X196 hx (t := .boolean) Bd.returns (by simp) (hb hby at_230) hr
                · show own_Q0 Z q1 p2 h0 n0 _ T196.heap _
                  rw [e196]
                  exact ⟨(by rw [own_f0, if_neg hc1, if_neg hc17, if_neg hc33, if_neg hc50, if_pos hc58, if_neg hc59, if_pos hc61]), N197⟩
              ·
                obtain ⟨fs, hr, hrun, hended, hW, hsame⟩ := X196.leave (v := some (.int (0 : Int32))) (fun h => by rw [Bd.returns] at h; cases h)
                refine ⟨_, _, k198 _ ?_, hrun, hended, _, _, rfl, ?_, ⟨_, rfl⟩, hW, hsame.mono (by decide) (by decide)⟩
                · show Steps p.tables e below (T196.setTop (mkF m 222 #[.val (.long q1), .second, .val (.int p2), .val (.int (3 : Int32)), .val (.ref b1), .val (.int (1 : Int32)), .val (.int (0 : Int32)), .val (.int (1 : Int32)), .val (.int (2 : Int32))] [(.int (2 : Int32)), (.int (own_v3_f1 (nar .byte (own_b3 q1)) (nar .byte (own_b4 q1)) (nar .byte (own_b5 q1))))])) _
                  refine XS.icmpYes X196.here hx rfl (pc0 := 222) (pc' := 229) rfl (hb hby at_222) rfl (feq hc61).2 (by decide) (by decide) ?_
                  show Steps p.tables e below (T196.setTop (mkF m 229 #[.val (.long q1), .second, .val (.int p2), .val (.int (3 : Int32)), .val (.ref b1), .val (.int (1 : Int32)), .val (.int (0 : Int32)), .val (.int (1 : Int32)), .val (.int (2 : Int32))] [])) _
                  refine XS.iconst X196.here hx rfl (hb hby at_229) ?_
                  show Steps p.tables e below (T196.setTop (mkF m 230 #[.val (.long q1), .second, .val (.int p2), .val (.int (3 : Int32)), .val (.ref b1), .val (.int (1 : Int32)), .val (.int (0 : Int32)), .val (.int (1 : Int32)), .val (.int (2 : Int32))] [(.int (0 : Int32))])) _
                  exact retN X196 hx (t := .boolean) Bd.returns (by simp) (hb hby at_230) hr
                · show own_Q0 Z q1 p2 h0 n0 _ T196.heap _
                  rw [e196]
                  exact ⟨(by rw [own_f0, if_neg hc1, if_neg hc17, if_neg hc33, if_neg hc50, if_pos hc58, if_neg hc59, if_neg hc61]), N197⟩
          ·
            obtain ⟨cl199, Ar199, qk199, Sz199, Nn199, Hs199, Gf199⟩ := id V_b1_32
            have hin199 : ¬ ((5 : Int32) < 0 ∨ cl199.slots.size ≤ ((5 : Int32)).toNatClampNeg) := inb_of Sz199 ⟨by decide, by decide⟩
            have hat199 : cl199.slots[((5 : Int32)).toNatClampNeg]? = some (.int (nar .byte (own_b5 q1))) := Has.at Hs199 hin199 rfl
            have k200 : ∀ t, Steps p.tables e below (T32.setTop (mkF m 137 #[.val (.long q1), .second, .val (.int p2), .val (.int (3 : Int32)), .val (.ref b1), .val (.int (1 : Int32)), .val (.int (1 : Int32)), .unset, .unset] [(.int ((nar .byte (own_b5 q1)) &&& (128 : Int32)))])) t → Steps p.tables e below (s₁.setTop (entryFrame m #[(.long q1), (.int p2)] maxLocals)) t := by
              intro t kt
              refine k190 t ?_
              show Steps p.tables e below (T32.setTop (mkF m 117 #[.val (.long q1), .second, .val (.int p2), .val (.int (3 : Int32)), .val (.ref b1), .val (.int (1 : Int32)), .unset, .unset, .unset] [(.int ((nar .byte (own_b4 q1)) &&& (128 : Int32)))])) _
              refine XS.ifNo X32.here hx rfl (hb hby at_117) rfl ((if0 _ _).trans (feq hc58).1) ?_
              show Steps p.tables e below (T32.setTop (mkF m 120 #[.val (.long q1), .second, .val (.int p2), .val (.int (3 : Int32)), .val (.ref b1), .val (.int (1 : Int32)), .unset, .unset, .unset] [])) _
              refine XS.iconst X32.here hx rfl (hb hby at_120) ?_
              show Steps p.tables e below (T32.setTop (mkF m 121 #[.val (.long q1), .second, .val (.int p2), .val (.int (3 : Int32)), .val (.ref b1), .val (.int (1 : Int32)), .unset, .unset, .unset] [(.int (1 : Int32))])) _
              refine XS.goto X32.here hx rfl (pc0 := 121) (pc' := 125) rfl (hb hby at_121) (by decide) (by decide) ?_
              show Steps p.tables e below (T32.setTop (mkF m 125 #[.val (.long q1), .second, .val (.int p2), .val (.int (3 : Int32)), .val (.ref b1), .val (.int (1 : Int32)), .unset, .unset, .unset] [(.int (1 : Int32))])) _
              refine XS.istore X32.here hx rfl (hb hby at_125) rfl (l' := #[.val (.long q1), .second, .val (.int p2), .val (.int (3 : Int32)), .val (.ref b1), .val (.int (1 : Int32)), .val (.int (1 : Int32)), .unset, .unset]) rfl ?_
              show Steps p.tables e below (T32.setTop (mkF m 127 #[.val (.long q1), .second, .val (.int p2), .val (.int (3 : Int32)), .val (.ref b1), .val (.int (1 : Int32)), .val (.int (1 : Int32)), .unset, .unset] [])) _
              refine XS.aload X32.here hx rfl (hb hby at_127) rfl rfl ?_
              show Steps p.tables e below (T32.setTop (mkF m 129 #[.val (.long q1), .second, .val (.int p2), .val (.int (3 : Int32)), .val (.ref b1), .val (.int (1 : Int32)), .val (.int (1 : Int32)), .unset, .unset] [(.ref b1)])) _
              refine XS.iloadN X32.here hx rfl (hb hby at_129) rfl ?_
              show Steps p.tables e below (T32.setTop (mkF m 130 #[.val (.long q1), .second, .val (.int p2), .val (.int (3 : Int32)), .val (.ref b1), .val (.int (1 : Int32)), .val (.int (1 : Int32)), .unset, .unset] [(.int (3 : Int32)), (.ref b1)])) _
              refine XS.iconst X32.here hx rfl (hb hby at_130) ?_
              show Steps p.tables e below (T32.setTop (mkF m 131 #[.val (.long q1), .second, .val (.int p2), .val (.int (3 : Int32)), .val (.ref b1), .val (.int (1 : Int32)), .val (.int (1 : Int32)), .unset, .unset] [(.int (2 : Int32)), (.int (3 : Int32)), (.ref b1)])) _
              refine XS.iadd X32.here hx rfl (hb hby at_131) rfl ?_
              show Steps p.tables e below (T32.setTop (mkF m 132 #[.val (.long q1), .second, .val (.int p2), .val (.int (3 : Int32)), .val (.ref b1), .val (.int (1 : Int32)), .val (.int (1 : Int32)), .unset, .unset] [(.int (5 : Int32)), (.ref b1)])) _
              refine X32.baloadBytes hx (j := (5 : Int32)) (v := (.int (nar .byte (own_b5 q1)))) (by rw [e32]; exact Ar199.1) (State.isArrayOf_alike hZ.alike Ar199.2.1) Ar199.2.2 hin199 hat199 (g := (mkF m 132 #[.val (.long q1), .second, .val (.int p2), .val (.int (3 : Int32)), .val (.ref b1), .val (.int (1 : Int32)), .val (.int (1 : Int32)), .unset, .unset] [(.int (5 : Int32)), (.ref b1)])) rfl rfl (hb hby at_132) _ ?_
              show Steps p.tables e below (T32.setTop (mkF m 133 #[.val (.long q1), .second, .val (.int p2), .val (.int (3 : Int32)), .val (.ref b1), .val (.int (1 : Int32)), .val (.int (1 : Int32)), .unset, .unset] [(.int (nar .byte (own_b5 q1)))])) _
              refine XS.sipush X32.here hx rfl (hb hby at_133) ?_
              show Steps p.tables e below (T32.setTop (mkF m 136 #[.val (.long q1), .second, .val (.int p2), .val (.int (3 : Int32)), .val (.ref b1), .val (.int (1 : Int32)), .val (.int (1 : Int32)), .unset, .unset] [(.int (128 : Int32)), (.int (nar .byte (own_b5 q1)))])) _
              refine XS.iand X32.here hx rfl (hb hby at_136) rfl ?_
              exact kt
            by_cases hc62 : ((nar .byte (own_b5 q1)) &&& (128 : Int32)) = (0 : Int32)
            ·
              obtain ⟨v201, _, ⟨T201, L201, k201, n201⟩, -, X201, ⟨Lc201, hQ201, l201, y201, z201⟩, st201⟩ := Jvm.LawKit.callS X32 hx (y := (⟨"com/example/castd/castd/mqtt/VariableByteInteger", "length", "([BI)I"⟩ : MethodName)) hown (mvT hZ (hw _ (List.mem_of_getElem? (i := 1) rfl))) (mvT hZ (hw _ (List.mem_of_getElem? (i := 2) rfl))) (mvT hZ (hw _ (List.mem_of_getElem? (i := 3) rfl))) (mvT hZ (hw _ (List.mem_of_getElem? (i := 4) rfl))) (by decide) (backOf (W := 0) (own_v3_rm1 l Z a0 hw [] b1 k1 (nar .byte (own_b0 q1)) (nar .byte (own_b1 q1)) (nar .byte (own_b2 q1)) (nar .byte (own_b3 q1)) (nar .byte (own_b4 q1)) (nar .byte (own_b5 q1)) (nar .byte (own_b6 q1)) (nar .byte (own_b7 q1)) h32 n0 Z34 V_b1_32 (by intro h1 h2 h3; first | contradiction | exact own_clr _)) hZ (hw _ (List.mem_of_getElem? (i := 4) rfl)) (hw _ (List.mem_of_getElem? (i := 3) rfl)) (by decide) (by decide)) (g := (mkF m 217 #[.val (.long q1), .second, .val (.int p2), .val (.int (3 : Int32)), .val (.ref b1), .val (.int (1 : Int32)), .val (.int (1 : Int32)), .val (.int (0 : Int32)), .val (.int (3 : Int32))] [(.int (3 : Int32)), (.ref b1)])) rfl (by rw [hml]; rfl) (argsL := [(.ref b1), (.int (3 : Int32))]) (rest := []) (lenOf own_pd25 rfl) rfl (by show 2 * 0 + _ ≤ _; exact Nat.le_of_eq rfl) (hb hby at_217) (fun _ _ => ⟨rfl, e32, (by decide : 1 + 0 ≤ _), (by decide : 8 + 0 ≤ _)⟩)
              dsimp only [Pt.U, Pt.locs, Pt.cells, Pt.slots] at X201 l201 y201 z201 st201 hQ201
              subst l201 y201 z201
              obtain ⟨rfl, N201q, e201⟩ := hQ201
              have N202 := Fr.app N33 N201q
              have k203 : ∀ t, Steps p.tables e below (T201.setTop (mkF m 222 #[.val (.long q1), .second, .val (.int p2), .val (.int (3 : Int32)), .val (.ref b1), .val (.int (1 : Int32)), .val (.int (1 : Int32)), .val (.int (0 : Int32)), .val (.int (3 : Int32))] [(.int (3 : Int32)), (.int (own_v3_f1 (nar .byte (own_b3 q1)) (nar .byte (own_b4 q1)) (nar .byte (own_b5 q1))))])) t → Steps p.tables e below (s₁.setTop (entryFrame m #[(.long q1), (.int p2)] maxLocals)) t := by
                intro t kt
                refine k200 t ?_
                show Steps p.tables e below (T32.setTop (mkF m 137 #[.val (.long q1), .second, .val (.int p2), .val (.int (3 : Int32)), .val (.ref b1), .val (.int (1 : Int32)), .val (.int (1 : Int32)), .unset, .unset] [(.int ((nar .byte (own_b5 q1)) &&& (128 : Int32)))])) _
                refine XS.ifYes X32.here hx rfl (pc0 := 137) (pc' := 144) rfl (hb hby at_137) rfl ((if0 _ _).trans (teq hc62).1) (by decide) (by decide) ?_
                show Steps p.tables e below (T32.setTop (mkF m 144 #[.val (.long q1), .second, .val (.int p2), .val (.int (3 : Int32)), .val (.ref b1), .val (.int (1 : Int32)), .val (.int (1 : Int32)), .unset, .unset] [])) _
                refine XS.iconst X32.here hx rfl (hb hby at_144) ?_
                show Steps p.tables e below (T32.setTop (mkF m 145 #[.val (.long q1), .second, .val (.int p2), .val (.int (3 : Int32)), .val (.ref b1), .val (.int (1 : Int32)), .val (.int (1 : Int32)), .unset, .unset] [(.int (0 : Int32))])) _
                refine XS.istore X32.here hx rfl (hb hby at_145) rfl (l' := #[.val (.long q1), .second, .val (.int p2), .val (.int (3 : Int32)), .val (.ref b1), .val (.int (1 : Int32)), .val (.int (1 : Int32)), .val (.int (0 : Int32)), .unset]) rfl ?_
                show Steps p.tables e below (T32.setTop (mkF m 147 #[.val (.long q1), .second, .val (.int p2), .val (.int (3 : Int32)), .val (.ref b1), .val (.int (1 : Int32)), .val (.int (1 : Int32)), .val (.int (0 : Int32)), .unset] [])) _
                refine XS.iload X32.here hx rfl (hb hby at_147) rfl ?_
                show Steps p.tables e below (T32.setTop (mkF m 149 #[.val (.long q1), .second, .val (.int p2), .val (.int (3 : Int32)), .val (.ref b1), .val (.int (1 : Int32)), .val (.int (1 : Int32)), .val (.int (0 : Int32)), .unset] [(.int (1 : Int32))])) _
                refine XS.ifNo X32.here hx rfl (hb hby at_149) rfl ((if0 _ _).trans (feq (by decide : ¬ ((1 : Int32) = (0 : Int32)))).1) ?_
                show Steps p.tables e below (T32.setTop (mkF m 152 #[.val (.long q1), .second, .val (.int p2), .val (.int (3 : Int32)), .val (.ref b1), .val (.int (1 : Int32)), .val (.int (1 : Int32)), .val (.int (0 : Int32)), .unset] [])) _
                refine XS.iload X32.here hx rfl (hb hby at_152) rfl ?_
                show Steps p.tables e below (T32.setTop (mkF m 154 #[.val (.long q1), .second, .val (.int p2), .val (.int (3 : Int32)), .val (.ref b1), .val (.int (1 : Int32)), .val (.int (1 : Int32)), .val (.int (0 : Int32)), .unset] [(.int (1 : Int32))])) _
                refine XS.ifNo X32.here hx rfl (hb hby at_154) rfl ((if0 _ _).trans (feq (by decide : ¬ ((1 : Int32) = (0 : Int32)))).1) ?_
                show Steps p.tables e below (T32.setTop (mkF m 157 #[.val (.long q1), .second, .val (.int p2), .val (.int (3 : Int32)), .val (.ref b1), .val (.int (1 : Int32)), .val (.int (1 : Int32)), .val (.int (0 : Int32)), .unset] [])) _
                refine XS.iload X32.here hx rfl (hb hby at_157) rfl ?_
                show Steps p.tables e below (T32.setTop (mkF m 159 #[.val (.long q1), .second, .val (.int p2), .val (.int (3 : Int32)), .val (.ref b1), .val (.int (1 : Int32)), .val (.int (1 : Int32)), .val (.int (0 : Int32)), .unset] [(.int (0 : Int32))])) _
                refine XS.ifYes X32.here hx rfl (pc0 := 159) (pc' := 178) rfl (hb hby at_159) rfl ((if0 _ _).trans (teq (by decide : (0 : Int32) = (0 : Int32))).1) (by decide) (by decide) ?_
                show Steps p.tables e below (T32.setTop (mkF m 178 #[.val (.long q1), .second, .val (.int p2), .val (.int (3 : Int32)), .val (.ref b1), .val (.int (1 : Int32)), .val (.int (1 : Int32)), .val (.int (0 : Int32)), .unset] [])) _
                refine XS.iload X32.here hx rfl (hb hby at_178) rfl ?_
                show Steps p.tables e below (T32.setTop (mkF m 180 #[.val (.long q1), .second, .val (.int p2), .val (.int (3 : Int32)), .val (.ref b1), .val (.int (1 : Int32)), .val (.int (1 : Int32)), .val (.int (0 : Int32)), .unset] [(.int (1 : Int32))])) _
                refine XS.ifYes X32.here hx rfl (pc0 := 180) (pc' := 189) rfl (hb hby at_180) rfl ((if0 _ _).trans (feq (by decide : ¬ ((1 : Int32) = (0 : Int32)))).2) (by decide) (by decide) ?_
                show Steps p.tables e below (T32.setTop (mkF m 189 #[.val (.long q1), .second, .val (.int p2), .val (.int (3 : Int32)), .val (.ref b1), .val (.int (1 : Int32)), .val (.int (1 : Int32)), .val (.int (0 : Int32)), .unset] [])) _
                refine XS.iload X32.here hx rfl (hb hby at_189) rfl ?_
                show Steps p.tables e below (T32.setTop (mkF m 191 #[.val (.long q1), .second, .val (.int p2), .val (.int (3 : Int32)), .val (.ref b1), .val (.int (1 : Int32)), .val (.int (1 : Int32)), .val (.int (0 : Int32)), .unset] [(.int (1 : Int32))])) _
                refine XS.ifYes X32.here hx rfl (pc0 := 191) (pc' := 200) rfl (hb hby at_191) rfl ((if0 _ _).trans (feq (by decide : ¬ ((1 : Int32) = (0 : Int32)))).2) (by decide) (by decide) ?_
                show Steps p.tables e below (T32.setTop (mkF m 200 #[.val (.long q1), .second, .val (.int p2), .val (.int (3 : Int32)), .val (.ref b1), .val (.int (1 : Int32)), .val (.int (1 : Int32)), .val (.int (0 : Int32)), .unset] [])) _
                refine XS.iload X32.here hx rfl (hb hby at_200) rfl ?_
                show Steps p.tables e below (T32.setTop (mkF m 202 #[.val (.long q1), .second, .val (.int p2), .val (.int (3 : Int32)), .val (.ref b1), .val (.int (1 : Int32)), .val (.int (1 : Int32)), .val (.int (0 : Int32)), .unset] [(.int (0 : Int32))])) _
                refine XS.ifNo X32.here hx rfl (hb hby at_202) rfl ((if0 _ _).trans (teq (by decide : (0 : Int32) = (0 : Int32))).2) ?_
                show Steps p.tables e below (T32.setTop (mkF m 205 #[.val (.long q1), .second, .val (.int p2), .val (.int (3 : Int32)), .val (.ref b1), .val (.int (1 : Int32)), .val (.int (1 : Int32)), .val (.int (0 : Int32)), .unset] [])) _
                refine XS.iconst X32.here hx rfl (hb hby at_205) ?_
                show Steps p.tables e below (T32.setTop (mkF m 206 #[.val (.long q1), .second, .val (.int p2), .val (.int (3 : Int32)), .val (.ref b1), .val (.int (1 : Int32)), .val (.int (1 : Int32)), .val (.int (0 : Int32)), .unset] [(.int (3 : Int32))])) _
                refine XS.istore X32.here hx rfl (hb hby at_206) rfl (l' := #[.val (.long q1), .second, .val (.int p2), .val (.int (3 : Int32)), .val (.ref b1), .val (.int (1 : Int32)), .val (.int (1 : Int32)), .val (.int (0 : Int32)), .val (.int (3 : Int32))]) rfl ?_
                show Steps p.tables e below (T32.setTop (mkF m 208 #[.val (.long q1), .second, .val (.int p2), .val (.int (3 : Int32)), .val (.ref b1), .val (.int (1 : Int32)), .val (.int (1 : Int32)), .val (.int (0 : Int32)), .val (.int (3 : Int32))] [])) _
                refine XS.goto X32.here hx rfl (pc0 := 208) (pc' := 214) rfl (hb hby at_208) (by decide) (by decide) ?_
                show Steps p.tables e below (T32.setTop (mkF m 214 #[.val (.long q1), .second, .val (.int p2), .val (.int (3 : Int32)), .val (.ref b1), .val (.int (1 : Int32)), .val (.int (1 : Int32)), .val (.int (0 : Int32)), .val (.int (3 : Int32))] [])) _
                refine XS.aload X32.here hx rfl (hb hby at_214) rfl rfl ?_
                show Steps p.tables e below (T32.setTop (mkF m 216 #[.val (.long q1), .second, .val (.int p2), .val (.int (3 : Int32)), .val (.ref b1), .val (.int (1 : Int32)), .val (.int (1 : Int32)), .val (.int (0 : Int32)), .val (.int (3 : Int32))] [(.ref b1)])) _
                refine XS.iloadN X32.here hx rfl (hb hby at_216) rfl ?_
                show Steps p.tables e below (T32.setTop (mkF m 217 #[.val (.long q1), .second, .val (.int p2), .val (.int (3 : Int32)), .val (.ref b1), .val (.int (1 : Int32)), .val (.int (1 : Int32)), .val (.int (0 : Int32)), .val (.int (3 : Int32))] [(.int (3 : Int32)), (.ref b1)])) _
                refine st201 _ ?_
                show Steps p.tables e below (T201.setTop (mkF m 220 #[.val (.long q1), .second, .val (.int p2), .val (.int (3 : Int32)), .val (.ref b1), .val (.int (1 : Int32)), .val (.int (1 : Int32)), .val (.int (0 : Int32)), .val (.int (3 : Int32))] [(.int (own_v3_f1 (nar .byte (own_b3 q1)) (nar .byte (own_b4 q1)) (nar .byte (own_b5 q1))))])) _
                refine XS.iload X201.here hx rfl (hb hby at_220) rfl ?_
                exact kt
              by_cases hc63 : (own_v3_f1 (nar .byte (own_b3 q1)) (nar .byte (own_b4 q1)) (nar .byte (own_b5 q1))) = (3 : Int32)
              ·
                obtain ⟨fs, hr, hrun, hended, hW, hsame⟩ := X201.leave (v := some (.int (1 : Int32))) (fun h => by rw [Bd.returns] at h; cases h)
                refine ⟨_, _, k203 _ ?_, hrun, hended, _, _, rfl, ?_, ⟨_, rfl⟩, hW, hsame.mono (by decide) (by decide)⟩
                · show Steps p.tables e below (T201.setTop (mkF m 222 #[.val (.long q1), .second, .val (.int p2), .val (.int (3 : Int32)), .val (.ref b1), .val (.int (1 : Int32)), .val (.int (1 : Int32)), .val (.int (0 : Int32)), .val (.int (3 : Int32))] [(.int (3 : Int32)), (.int (own_v3_f1 (nar .byte (own_b3 q1)) (nar .byte (own_b4 q1)) (nar .byte (own_b5 q1))))])) _
                  refine XS.icmpNo X201.here hx rfl (hb hby at_222) rfl (teq hc63).2 ?_
                  show Steps p.tables e below (T201.setTop (mkF m 225 #[.val (.long q1), .second, .val (.int p2), .val (.int (3 : Int32)), .val (.ref b1), .val (.int (1 : Int32)), .val (.int (1 : Int32)), .val (.int (0 : Int32)), .val (.int (3 : Int32))] [])) _
                  refine XS.iconst X201.here hx rfl (hb hby at_225) ?_
                  show Steps p.tables e below (T201.setTop (mkF m 226 #[.val (.long q1), .second, .val (.int p2), .val (.int (3 : Int32)), .val (.ref b1), .val (.int (1 : Int32)), .val (.int (1 : Int32)), .val (.int (0 : Int32)), .val (.int (3 : Int32))] [(.int (1 : Int32))])) _
                  refine XS.goto X201.here hx rfl (pc0 := 226) (pc' := 230) rfl (hb hby at_226) (by decide) (by decide) ?_
                  show Steps p.tables e below (T201.setTop (mkF m 230 #[.val (.long q1), .second, .val (.int p2), .val (.int (3 : Int32)), .val (.ref b1), .val (.int (1 : Int32)), .val (.int (1 : Int32)), .val (.int (0 : Int32)), .val (.int (3 : Int32))] [(.int (1 : Int32))])) _
                  exact retN X201 hx (t := .boolean) Bd.returns (by simp) (hb hby at_230) hr
                · show own_Q0 Z q1 p2 h0 n0 _ T201.heap _
                  rw [e201]
                  exact ⟨(by rw [own_f0, if_neg hc1, if_neg hc17, if_neg hc33, if_neg hc50, if_neg hc58, if_pos hc62, if_pos hc63]), N202⟩
              ·
                obtain ⟨fs, hr, hrun, hended, hW, hsame⟩ := X201.leave (v := some (.int (0 : Int32))) (fun h => by rw [Bd.returns] at h; cases h)
                refine ⟨_, _, k203 _ ?_, hrun, hended, _, _, rfl, ?_, ⟨_, rfl⟩, hW, hsame.mono (by decide) (by decide)⟩
                · show Steps p.tables e below (T201.setTop (mkF m 222 #[.val (.long q1), .second, .val (.int p2), .val (.int (3 : Int32)), .val (.ref b1), .val (.int (1 : Int32)), .val (.int (1 : Int32)), .val (.int (0 : Int32)), .val (.int (3 : Int32))] [(.int (3 : Int32)), (.int (own_v3_f1 (nar .byte (own_b3 q1)) (nar .byte (own_b4 q1)) (nar .byte (own_b5 q1))))])) _
                  refine XS.icmpYes X201.here hx rfl (pc0 := 222) (pc' := 229) rfl (hb hby at_222) rfl (feq hc63).2 (by decide) (by decide) ?_
                  show Steps p.tables e below (T201.setTop (mkF m 229 #[.val (.long q1), .second, .val (.int p2), .val (.int (3 : Int32)), .val (.ref b1), .val (.int (1 : Int32)), .val (.int (1 : Int32)), .val (.int (0 : Int32)), .val (.int (3 : Int32))] [])) _
                  refine XS.iconst X201.here hx rfl (hb hby at_229) ?_
                  show Steps p.tables e below (T201.setTop (mkF m 230 #[.val (.long q1), .second, .val (.int p2), .val (.int (3 : Int32)), .val (.ref b1), .val (.int (1 : Int32)), .val (.int (1 : Int32)), .val (.int (0 : Int32)), .val (.int (3 : Int32))] [(.int (0 : Int32))])) _
                  exact retN X201 hx (t := .boolean) Bd.returns (by simp) (hb hby at_230) hr
                · show own_Q0 Z q1 p2 h0 n0 _ T201.heap _
                  rw [e201]
                  exact ⟨(by rw [own_f0, if_neg hc1, if_neg hc17, if_neg hc33, if_neg hc50, if_neg hc58, if_pos hc62, if_neg hc63]), N202⟩
            ·
              obtain ⟨cl204, Ar204, qk204, Sz204, Nn204, Hs204, Gf204⟩ := id V_b1_32
              have hin204 : ¬ ((6 : Int32) < 0 ∨ cl204.slots.size ≤ ((6 : Int32)).toNatClampNeg) := inb_of Sz204 ⟨by decide, by decide⟩
              have hat204 : cl204.slots[((6 : Int32)).toNatClampNeg]? = some (.int (nar .byte (own_b6 q1))) := Has.at Hs204 hin204 rfl
              obtain ⟨cl205, Ar205, qk205, Sz205, Nn205, Hs205, Gf205⟩ := id V_b1_32
              have hin205 : ¬ ((6 : Int32) < 0 ∨ cl205.slots.size ≤ ((6 : Int32)).toNatClampNeg) := inb_of Sz205 ⟨by decide, by decide⟩
              obtain ⟨T206, h206, X206, e206, W206, st206⟩ := stB X32 hx hZ e32 Ar205 (j := (6 : Int32)) hin205 (g := (mkF m 177 #[.val (.long q1), .second, .val (.int p2), .val (.int (3 : Int32)), .val (.ref b1), .val (.int (1 : Int32)), .val (.int (1 : Int32)), .val (.int (1 : Int32)), .unset] [(.int (((nar .byte (own_b6 q1)) &&& (127 : Int32)).toInt8.toInt32)), (.int (6 : Int32)), (.ref b1)])) rfl rfl (hb hby at_177)
              have V_b1_206 : Arv Z h206 b1 k1 .byte (8 : Int32) [(.int (nar .byte (own_b0 q1))), (.int (nar .byte (own_b1 q1))), (.int (nar .byte (own_b2 q1))), (.int (nar .byte (own_b3 q1))), (.int (nar .byte (own_b4 q1))), (.int (nar .byte (own_b5 q1))), (.int (nar .byte (((nar .byte (own_b6 q1)) &&& (127 : Int32)).toInt8.toInt32))), (.int (nar .byte (own_b7 q1)))] (.int (0 : Int32)) := Arv.set Ar205 qk205 Sz205 Nn205 Hs205 Gf205 (fits_nar_byte _) W206 6 rfl (Nat.le_of_ble_eq_true rfl)
              have N207 := Fr.snoc X206 N33 g_b1
              have Z208 := Nat.le_trans Z34 (Keep.of_wr W206).1
              obtain ⟨v209, _, ⟨T209, L209, k209, n209⟩, -, X209, ⟨Lc209, hQ209, l209, y209, z209⟩, st209⟩ := Jvm.LawKit.callS X206 hx (y := (⟨"com/example/castd/castd/mqtt/VariableByteInteger", "length", "([BI)I"⟩ : MethodName)) hown (mvT hZ (hw _ (List.mem_of_getElem? (i := 1) rfl))) (mvT hZ (hw _ (List.mem_of_getElem? (i := 2) rfl))) (mvT hZ (hw _ (List.mem_of_getElem? (i := 3) rfl))) (mvT hZ (hw _ (List.mem_of_getElem? (i := 4) rfl))) (by decide) (backOf (W := 0) (own_v3_rm1 l Z a0 hw [] b1 k1 (nar .byte (own_b0 q1)) (nar .byte (own_b1 q1)) (nar .byte (own_b2 q1)) (nar .byte (own_b3 q1)) (nar .byte (own_b4 q1)) (nar .byte (own_b5 q1)) (nar .byte (((nar .byte (own_b6 q1)) &&& (127 : Int32)).toInt8.toInt32)) (nar .byte (own_b7 q1)) h206 n0 Z208 V_b1_206 (by intro h1 h2 h3; first | contradiction | exact own_clr _)) hZ (hw _ (List.mem_of_getElem? (i := 4) rfl)) (hw _ (List.mem_of_getElem? (i := 3) rfl)) (by decide) (by decide)) (g := (mkF m 217 #[.val (.long q1), .second, .val (.int p2), .val (.int (3 : Int32)), .val (.ref b1), .val (.int (1 : Int32)), .val (.int (1 : Int32)), .val (.int (1 : Int32)), .val (.int (4 : Int32))] [(.int (3 : Int32)), (.ref b1)])) rfl (by rw [hml]; rfl) (argsL := [(.ref b1), (.int (3 : Int32))]) (rest := []) (lenOf own_pd25 rfl) rfl (by show 2 * 0 + _ ≤ _; exact Nat.le_of_eq rfl) (hb hby at_217) (fun _ _ => ⟨rfl, e206, (by decide : 1 + 0 ≤ _), (by decide : 8 + 0 ≤ _)⟩)
              dsimp only [Pt.U, Pt.locs, Pt.cells, Pt.slots] at X209 l209 y209 z209 st209 hQ209
              subst l209 y209 z209
              obtain ⟨rfl, N209q, e209⟩ := hQ209
              have N210 := Fr.app N207 N209q
              have k211 : ∀ t, Steps p.tables e below (T209.setTop (mkF m 222 #[.val (.long q1), .second, .val (.int p2), .val (.int (3 : Int32)), .val (.ref b1), .val (.int (1 : Int32)), .val (.int (1 : Int32)), .val (.int (1 : Int32)), .val (.int (4 : Int32))] [(.int (4 : Int32)), (.int (own_v3_f1 (nar .byte (own_b3 q1)) (nar .byte (own_b4 q1)) (nar .byte (own_b5 q1))))])) t → Steps p.tables e below (s₁.setTop (entryFrame m #[(.long q1), (.int p2)] maxLocals)) t := by
                intro t kt
                refine k200 t ?_
                show Steps p.tables e below (T32.setTop (mkF m 137 #[.val (.long q1), .second, .val (.int p2), .val (.int (3 : Int32)), .val (.ref b1), .val (.int (1 : Int32)), .val (.int (1 : Int32)), .unset, .unset] [(.int ((nar .byte (own_b5 q1)) &&& (128 : Int32)))])) _
                refine XS.ifNo X32.here hx rfl (hb hby at_137) rfl ((if0 _ _).trans (feq hc62).1) ?_
                show Steps p.tables e below (T32.setTop (mkF m 140 #[.val (.long q1), .second, .val (.int p2), .val (.int (3 : Int32)), .val (.ref b1), .val (.int (1 : Int32)), .val (.int (1 : Int32)), .unset, .unset] [])) _
                refine XS.iconst X32.here hx rfl (hb hby at_140) ?_
                show Steps p.tables e below (T32.setTop (mkF m 141 #[.val (.long q1), .second, .val (.int p2), .val (.int (3 : Int32)), .val (.ref b1), .val (.int (1 : Int32)), .val (.int (1 : Int32)), .unset, .unset] [(.int (1 : Int32))])) _
                refine XS.goto X32.here hx rfl (pc0 := 141) (pc' := 145) rfl (hb hby at_141) (by decide) (by decide) ?_
                show Steps p.tables e below (T32.setTop (mkF m 145 #[.val (.long q1), .second, .val (.int p2), .val (.int (3 : Int32)), .val (.ref b1), .val (.int (1 : Int32)), .val (.int (1 : Int32)), .unset, .unset] [(.int (1 : Int32))])) _
                refine XS.istore X32.here hx rfl (hb hby at_145) rfl (l' := #[.val (.long q1), .second, .val (.int p2), .val (.int (3 : Int32)), .val (.ref b1), .val (.int (1 : Int32)), .val (.int (1 : Int32)), .val (.int (1 : Int32)), .unset]) rfl ?_
                show Steps p.tables e below (T32.setTop (mkF m 147 #[.val (.long q1), .second, .val (.int p2), .val (.int (3 : Int32)), .val (.ref b1), .val (.int (1 : Int32)), .val (.int (1 : Int32)), .val (.int (1 : Int32)), .unset] [])) _
                refine XS.iload X32.here hx rfl (hb hby at_147) rfl ?_
                show Steps p.tables e below (T32.setTop (mkF m 149 #[.val (.long q1), .second, .val (.int p2), .val (.int (3 : Int32)), .val (.ref b1), .val (.int (1 : Int32)), .val (.int (1 : Int32)), .val (.int (1 : Int32)), .unset] [(.int (1 : Int32))])) _
                refine XS.ifNo X32.here hx rfl (hb hby at_149) rfl ((if0 _ _).trans (feq (by decide : ¬ ((1 : Int32) = (0 : Int32)))).1) ?_
                show Steps p.tables e below (T32.setTop (mkF m 152 #[.val (.long q1), .second, .val (.int p2), .val (.int (3 : Int32)), .val (.ref b1), .val (.int (1 : Int32)), .val (.int (1 : Int32)), .val (.int (1 : Int32)), .unset] [])) _
                refine XS.iload X32.here hx rfl (hb hby at_152) rfl ?_
                show Steps p.tables e below (T32.setTop (mkF m 154 #[.val (.long q1), .second, .val (.int p2), .val (.int (3 : Int32)), .val (.ref b1), .val (.int (1 : Int32)), .val (.int (1 : Int32)), .val (.int (1 : Int32)), .unset] [(.int (1 : Int32))])) _
                refine XS.ifNo X32.here hx rfl (hb hby at_154) rfl ((if0 _ _).trans (feq (by decide : ¬ ((1 : Int32) = (0 : Int32)))).1) ?_
                show Steps p.tables e below (T32.setTop (mkF m 157 #[.val (.long q1), .second, .val (.int p2), .val (.int (3 : Int32)), .val (.ref b1), .val (.int (1 : Int32)), .val (.int (1 : Int32)), .val (.int (1 : Int32)), .unset] [])) _
                refine XS.iload X32.here hx rfl (hb hby at_157) rfl ?_
                show Steps p.tables e below (T32.setTop (mkF m 159 #[.val (.long q1), .second, .val (.int p2), .val (.int (3 : Int32)), .val (.ref b1), .val (.int (1 : Int32)), .val (.int (1 : Int32)), .val (.int (1 : Int32)), .unset] [(.int (1 : Int32))])) _
                refine XS.ifNo X32.here hx rfl (hb hby at_159) rfl ((if0 _ _).trans (feq (by decide : ¬ ((1 : Int32) = (0 : Int32)))).1) ?_
                show Steps p.tables e below (T32.setTop (mkF m 162 #[.val (.long q1), .second, .val (.int p2), .val (.int (3 : Int32)), .val (.ref b1), .val (.int (1 : Int32)), .val (.int (1 : Int32)), .val (.int (1 : Int32)), .unset] [])) _
                refine XS.aload X32.here hx rfl (hb hby at_162) rfl rfl ?_
                show Steps p.tables e below (T32.setTop (mkF m 164 #[.val (.long q1), .second, .val (.int p2), .val (.int (3 : Int32)), .val (.ref b1), .val (.int (1 : Int32)), .val (.int (1 : Int32)), .val (.int (1 : Int32)), .unset] [(.ref b1)])) _
                refine XS.iloadN X32.here hx rfl (hb hby at_164) rfl ?_
                show Steps p.tables e below (T32.setTop (mkF m 165 #[.val (.long q1), .second, .val (.int p2), .val (.int (3 : Int32)), .val (.ref b1), .val (.int (1 : Int32)), .val (.int (1 : Int32)), .val (.int (1 : Int32)), .unset] [(.int (3 : Int32)), (.ref b1)])) _
                refine XS.iconst X32.here hx rfl (hb hby at_165) ?_
                show Steps p.tables e below (T32.setTop (mkF m 166 #[.val (.long q1), .second, .val (.int p2), .val (.int (3 : Int32)), .val (.ref b1), .val (.int (1 : Int32)), .val (.int (1 : Int32)), .val (.int (1 : Int32)), .unset] [(.int (3 : Int32)), (.int (3 : Int32)), (.ref b1)])) _
                refine XS.iadd X32.here hx rfl (hb hby at_166) rfl ?_
                show Steps p.tables e below (T32.setTop (mkF m 167 #[.val (.long q1), .second, .val (.int p2), .val (.int (3 : Int32)), .val (.ref b1), .val (.int (1 : Int32)), .val (.int (1 : Int32)), .val (.int (1 : Int32)), .unset] [(.int (6 : Int32)), (.ref b1)])) _
                refine XS.aload X32.here hx rfl (hb hby at_167) rfl rfl ?_
                show Steps p.tables e below (T32.setTop (mkF m 169 #[.val (.long q1), .second, .val (.int p2), .val (.int (3 : Int32)), .val (.ref b1), .val (.int (1 : Int32)), .val (.int (1 : Int32)), .val (.int (1 : Int32)), .unset] [(.ref b1), (.int (6 : Int32)), (.ref b1)])) _
                refine XS.iloadN X32.here hx rfl (hb hby at_169) rfl ?_
                show Steps p.tables e below (T32.setTop (mkF m 170 #[.val (.long q1), .second, .val (.int p2), .val (.int (3 : Int32)), .val (.ref b1), .val (.int (1 : Int32)), .val (.int (1 : Int32)), .val (.int (1 : Int32)), .unset] [(.int (3 : Int32)), (.ref b1), (.int (6 : Int32)), (.ref b1)])) _
                refine XS.iconst X32.here hx rfl (hb hby at_170) ?_
                show Steps p.tables e below (T32.setTop (mkF m 171 #[.val (.long q1), .second, .val (.int p2), .val (.int (3 : Int32)), .val (.ref b1), .val (.int (1 : Int32)), .val (.int (1 : Int32)), .val (.int (1 : Int32)), .unset] [(.int (3 : Int32)), (.int (3 : Int32)), (.ref b1), (.int (6 : Int32)), (.ref b1)])) _
                refine XS.iadd X32.here hx rfl (hb hby at_171) rfl ?_
                show Steps p.tables e below (T32.setTop (mkF m 172 #[.val (.long q1), .second, .val (.int p2), .val (.int (3 : Int32)), .val (.ref b1), .val (.int (1 : Int32)), .val (.int (1 : Int32)), .val (.int (1 : Int32)), .unset] [(.int (6 : Int32)), (.ref b1), (.int (6 : Int32)), (.ref b1)])) _
                refine X32.baloadBytes hx (j := (6 : Int32)) (v := (.int (nar .byte (own_b6 q1)))) (by rw [e32]; exact Ar204.1) (State.isArrayOf_alike hZ.alike Ar204.2.1) Ar204.2.2 hin204 hat204 (g := (mkF m 172 #[.val (.long q1), .second, .val (.int p2), .val (.int (3 : Int32)), .val (.ref b1), .val (.int (1 : Int32)), .val (.int (1 : Int32)), .val (.int (1 : Int32)), .unset] [(.int (6 : Int32)), (.ref b1), (.int (6 : Int32)), (.ref b1)])) rfl rfl (hb hby at_172) _ ?_
                show Steps p.tables e below (T32.setTop (mkF m 173 #[.val (.long q1), .second, .val (.int p2), .val (.int (3 : Int32)), .val (.ref b1), .val (.int (1 : Int32)), .val (.int (1 : Int32)), .val (.int (1 : Int32)), .unset] [(.int (nar .byte (own_b6 q1))), (.int (6 : Int32)), (.ref b1)])) _
                refine XS.bipush X32.here hx rfl (hb hby at_173) ?_
                show Steps p.tables e below (T32.setTop (mkF m 175 #[.val (.long q1), .second, .val (.int p2), .val (.int (3 : Int32)), .val (.ref b1), .val (.int (1 : Int32)), .val (.int (1 : Int32)), .val (.int (1 : Int32)), .unset] [(.int (127 : Int32)), (.int (nar .byte (own_b6 q1))), (.int (6 : Int32)), (.ref b1)])) _
                refine XS.iand X32.here hx rfl (hb hby at_175) rfl ?_
                show Steps p.tables e below (T32.setTop (mkF m 176 #[.val (.long q1), .second, .val (.int p2), .val (.int (3 : Int32)), .val (.ref b1), .val (.int (1 : Int32)), .val (.int (1 : Int32)), .val (.int (1 : Int32)), .unset] [(.int ((nar .byte (own_b6 q1)) &&& (127 : Int32))), (.int (6 : Int32)), (.ref b1)])) _
                refine XS.i2b X32.here hx rfl (hb hby at_176) rfl ?_
                show Steps p.tables e below (T32.setTop (mkF m 177 #[.val (.long q1), .second, .val (.int p2), .val (.int (3 : Int32)), .val (.ref b1), .val (.int (1 : Int32)), .val (.int (1 : Int32)), .val (.int (1 : Int32)), .unset] [(.int (((nar .byte (own_b6 q1)) &&& (127 : Int32)).toInt8.toInt32)), (.int (6 : Int32)), (.ref b1)])) _
                refine st206 _ ?_
                show Steps p.tables e below (T206.setTop (mkF m 178 #[.val (.long q1), .second, .val (.int p2), .val (.int (3 : Int32)), .val (.ref b1), .val (.int (1 : Int32)), .val (.int (1 : Int32)), .val (.int (1 : Int32)), .unset] [])) _
                refine XS.iload X206.here hx rfl (hb hby at_178) rfl ?_
                show Steps p.tables e below (T206.setTop (mkF m 180 #[.val (.long q1), .second, .val (.int p2), .val (.int (3 : Int32)), .val (.ref b1), .val (.int (1 : Int32)), .val (.int (1 : Int32)), .val (.int (1 : Int32)), .unset] [(.int (1 : Int32))])) _
                refine XS.ifYes X206.here hx rfl (pc0 := 180) (pc' := 189) rfl (hb hby at_180) rfl ((if0 _ _).trans (feq (by decide : ¬ ((1 : Int32) = (0 : Int32)))).2) (by decide) (by decide) ?_
                show Steps p.tables e below (T206.setTop (mkF m 189 #[.val (.long q1), .second, .val (.int p2), .val (.int (3 : Int32)), .val (.ref b1), .val (.int (1 : Int32)), .val (.int (1 : Int32)), .val (.int (1 : Int32)), .unset] [])) _
                refine XS.iload X206.here hx rfl (hb hby at_189) rfl ?_
                show Steps p.tables e below (T206.setTop (mkF m 191 #[.val (.long q1), .second, .val (.int p2), .val (.int (3 : Int32)), .val (.ref b1), .val (.int (1 : Int32)), .val (.int (1 : Int32)), .val (.int (1 : Int32)), .unset] [(.int (1 : Int32))])) _
                refine XS.ifYes X206.here hx rfl (pc0 := 191) (pc' := 200) rfl (hb hby at_191) rfl ((if0 _ _).trans (feq (by decide : ¬ ((1 : Int32) = (0 : Int32)))).2) (by decide) (by decide) ?_
                show Steps p.tables e below (T206.setTop (mkF m 200 #[.val (.long q1), .second, .val (.int p2), .val (.int (3 : Int32)), .val (.ref b1), .val (.int (1 : Int32)), .val (.int (1 : Int32)), .val (.int (1 : Int32)), .unset] [])) _
                refine XS.iload X206.here hx rfl (hb hby at_200) rfl ?_
                show Steps p.tables e below (T206.setTop (mkF m 202 #[.val (.long q1), .second, .val (.int p2), .val (.int (3 : Int32)), .val (.ref b1), .val (.int (1 : Int32)), .val (.int (1 : Int32)), .val (.int (1 : Int32)), .unset] [(.int (1 : Int32))])) _
                refine XS.ifYes X206.here hx rfl (pc0 := 202) (pc' := 211) rfl (hb hby at_202) rfl ((if0 _ _).trans (feq (by decide : ¬ ((1 : Int32) = (0 : Int32)))).2) (by decide) (by decide) ?_
                show Steps p.tables e below (T206.setTop (mkF m 211 #[.val (.long q1), .second, .val (.int p2), .val (.int (3 : Int32)), .val (.ref b1), .val (.int (1 : Int32)), .val (.int (1 : Int32)), .val (.int (1 : Int32)), .unset] [])) _
                refine XS.iconst X206.here hx rfl (hb hby at_211) ?_
                show Steps p.tables e below (T206.setTop (mkF m 212 #[.val (.long q1), .second, .val (.int p2), .val (.int (3 : Int32)), .val (.ref b1), .val (.int (1 : Int32)), .val (.int (1 : Int32)), .val (.int (1 : Int32)), .unset] [(.int (4 : Int32))])) _
                refine XS.istore X206.here hx rfl (hb hby at_212) rfl (l' := #[.val (.long q1), .second, .val (.int p2), .val (.int (3 : Int32)), .val (.ref b1), .val (.int (1 : Int32)), .val (.int (1 : Int32)), .val (.int (1 : Int32)), .val (.int (4 : Int32))]) rfl ?_
                show Steps p.tables e below (T206.setTop (mkF m 214 #[.val (.long q1), .second, .val (.int p2), .val (.int (3 : Int32)), .val (.ref b1), .val (.int (1 : Int32)), .val (.int (1 : Int32)), .val (.int (1 : Int32)), .val (.int (4 : Int32))] [])) _
                refine XS.aload X206.here hx rfl (hb hby at_214) rfl rfl ?_
                show Steps p.tables e below (T206.setTop (mkF m 216 #[.val (.long q1), .second, .val (.int p2), .val (.int (3 : Int32)), .val (.ref b1), .val (.int (1 : Int32)), .val (.int (1 : Int32)), .val (.int (1 : Int32)), .val (.int (4 : Int32))] [(.ref b1)])) _
                refine XS.iloadN X206.here hx rfl (hb hby at_216) rfl ?_
                show Steps p.tables e below (T206.setTop (mkF m 217 #[.val (.long q1), .second, .val (.int p2), .val (.int (3 : Int32)), .val (.ref b1), .val (.int (1 : Int32)), .val (.int (1 : Int32)), .val (.int (1 : Int32)), .val (.int (4 : Int32))] [(.int (3 : Int32)), (.ref b1)])) _
                refine st209 _ ?_
                show Steps p.tables e below (T209.setTop (mkF m 220 #[.val (.long q1), .second, .val (.int p2), .val (.int (3 : Int32)), .val (.ref b1), .val (.int (1 : Int32)), .val (.int (1 : Int32)), .val (.int (1 : Int32)), .val (.int (4 : Int32))] [(.int (own_v3_f1 (nar .byte (own_b3 q1)) (nar .byte (own_b4 q1)) (nar .byte (own_b5 q1))))])) _
                refine XS.iload X209.here hx rfl (hb hby at_220) rfl ?_
                exact kt
              by_cases hc64 : (own_v3_f1 (nar .byte (own_b3 q1)) (nar .byte (own_b4 q1)) (nar .byte (own_b5 q1))) = (4 : Int32)
              ·
                obtain ⟨fs, hr, hrun, hended, hW, hsame⟩ := X209.leave (v := some (.int (1 : Int32))) (fun h => by rw [Bd.returns] at h; cases h)
                refine ⟨_, _, k211 _ ?_, hrun, hended, _, _, rfl, ?_, ⟨_, rfl⟩, hW, hsame.mono (by decide) (by decide)⟩
                · show Steps p.tables e below (T209.setTop (mkF m 222 #[.val (.long q1), .second, .val (.int p2), .val (.int (3 : Int32)), .val (.ref b1), .val (.int (1 : Int32)), .val (.int (1 : Int32)), .val (.int (1 : Int32)), .val (.int (4 : Int32))] [(.int (4 : Int32)), (.int (own_v3_f1 (nar .byte (own_b3 q1)) (nar .byte (own_b4 q1)) (nar .byte (own_b5 q1))))])) _
                  refine XS.icmpNo X209.here hx rfl (hb hby at_222) rfl (teq hc64).2 ?_
                  show Steps p.tables e below (T209.setTop (mkF m 225 #[.val (.long q1), .second, .val (.int p2), .val (.int (3 : Int32)), .val (.ref b1), .val (.int (1 : Int32)), .val (.int (1 : Int32)), .val (.int (1 : Int32)), .val (.int (4 : Int32))] [])) _
                  refine XS.iconst X209.here hx rfl (hb hby at_225) ?_
                  show Steps p.tables e below (T209.setTop (mkF m 226 #[.val (.long q1), .second, .val (.int p2), .val (.int (3 : Int32)), .val (.ref b1), .val (.int (1 : Int32)), .val (.int (1 : Int32)), .val (.int (1 : Int32)), .val (.int (4 : Int32))] [(.int (1 : Int32))])) _
                  refine XS.goto X209.here hx rfl (pc0 := 226) (pc' := 230) rfl (hb hby at_226) (by decide) (by decide) ?_
                  show Steps p.tables e below (T209.setTop (mkF m 230 #[.val (.long q1), .second, .val (.int p2), .val (.int (3 : Int32)), .val (.ref b1), .val (.int (1 : Int32)), .val (.int (1 : Int32)), .val (.int (1 : Int32)), .val (.int (4 : Int32))] [(.int (1 : Int32))])) _
                  exact retN X209 hx (t := .boolean) Bd.returns (by simp) (hb hby at_230) hr
                · show own_Q0 Z q1 p2 h0 n0 _ T209.heap _
                  rw [e209]
                  exact ⟨(by rw [own_f0, if_neg hc1, if_neg hc17, if_neg hc33, if_neg hc50, if_neg hc58, if_neg hc62, if_pos hc64]), N210⟩
              ·
                obtain ⟨fs, hr, hrun, hended, hW, hsame⟩ := X209.leave (v := some (.int (0 : Int32))) (fun h => by rw [Bd.returns] at h; cases h)
                refine ⟨_, _, k211 _ ?_, hrun, hended, _, _, rfl, ?_, ⟨_, rfl⟩, hW, hsame.mono (by decide) (by decide)⟩
                · show Steps p.tables e below (T209.setTop (mkF m 222 #[.val (.long q1), .second, .val (.int p2), .val (.int (3 : Int32)), .val (.ref b1), .val (.int (1 : Int32)), .val (.int (1 : Int32)), .val (.int (1 : Int32)), .val (.int (4 : Int32))] [(.int (4 : Int32)), (.int (own_v3_f1 (nar .byte (own_b3 q1)) (nar .byte (own_b4 q1)) (nar .byte (own_b5 q1))))])) _
                  refine XS.icmpYes X209.here hx rfl (pc0 := 222) (pc' := 229) rfl (hb hby at_222) rfl (feq hc64).2 (by decide) (by decide) ?_
                  show Steps p.tables e below (T209.setTop (mkF m 229 #[.val (.long q1), .second, .val (.int p2), .val (.int (3 : Int32)), .val (.ref b1), .val (.int (1 : Int32)), .val (.int (1 : Int32)), .val (.int (1 : Int32)), .val (.int (4 : Int32))] [])) _
                  refine XS.iconst X209.here hx rfl (hb hby at_229) ?_
                  show Steps p.tables e below (T209.setTop (mkF m 230 #[.val (.long q1), .second, .val (.int p2), .val (.int (3 : Int32)), .val (.ref b1), .val (.int (1 : Int32)), .val (.int (1 : Int32)), .val (.int (1 : Int32)), .val (.int (4 : Int32))] [(.int (0 : Int32))])) _
                  exact retN X209 hx (t := .boolean) Bd.returns (by simp) (hb hby at_230) hr
                · show own_Q0 Z q1 p2 h0 n0 _ T209.heap _
                  rw [e209]
                  exact ⟨(by rw [own_f0, if_neg hc1, if_neg hc17, if_neg hc33, if_neg hc50, if_neg hc58, if_neg hc62, if_neg hc64]), N210⟩
theorem own_law (q1 : Int64) (p2 : Int32) : own_f0 q1 p2 = 1 := by
  unfold own_f0
  simp only [own_v0_f1, own_v1_f1, own_v2_f1, own_v3_f1]
  repeat' split
  all_goals first | rfl | contradiction | simp_all
set_option maxRecDepth 65536 in
set_option maxHeartbeats 40000000 in
theorem comes_1 {Post : Tables → Env → Array Value → State → Outcome → State → Prop} (hpost : ∀ tb e args s v u, (limb_1_1.after args s (.returned v) u = true ∧ limb_1_2.after args s (.returned v) u = true ∧ True) → FrameEnd s (.returned v) u (Jvm.fieldLocs frame_1_writes args s ++ Jvm.arrayLocs frame_1_arrays args s ++ Jvm.staticLocs frame_1_statics s) 16 128 → Post tb e args s (.returned v) u) :
    ArmFor flags0 classFile x code maxLocals ret World_1 tables_1 room_1 Calls_1 rest_1 Pre_1 Post := by
  intro l hfl _ _ p e ha hc hk s m args below hf hA hF happ hP
  obtain ⟨hcalls, hrest, hpre⟩ := hP
  obtain ⟨-, -, -, hnamed, -, -, -, hat⟩ := (Spec.applies_iff hf).mp happ
  obtain ⟨hg, hn⟩ := and_e (Cond.before_iff.mp (show (Jvm.Cond.and given_1 narrow_1).before args s = true from hpre))
  obtain ⟨gg1, gg2⟩ := and_e hg
  obtain ⟨gg3, gg4⟩ := and_e gg2
  obtain ⟨w0, w1, rfl⟩ : ∃ w0 w1 : Value, args = #[w0, w1] := by
    have hs : args.size = 2 := by simpa [Cond.value, given_1] using gg1
    obtain ⟨L⟩ := args
    match L, hs with
    | [w0, w1], _ => exact ⟨w0, w1, rfl⟩
  have hw := fun d (hd : d ∈ tables_1) => atoms_spec (ws := Jvm.Cond.code x code maxLocals ret :: tables_1) hat d (List.mem_cons_of_mem _ hd)
  have hfit : Fit s := fun {y c} hc i hi => by
    obtain ⟨ha, rfl⟩ := Array.getElem?_eq_some_iff.mp hc
    have q := List.all_eq_true.mp ((Array.all_eq_true_iff_forall_mem.mp hF) _ (Array.getElem_mem ha)) i (List.mem_range.mpr hi)
    simpa [Array.getElem?_eq_getElem hi] using q
  obtain ⟨i0, ei0⟩ := isL_v gg3
  obtain rfl : w0 = (.long i0) := Option.some.inj ei0
  obtain ⟨i1, ei1⟩ := is_v gg4
  obtain rfl : w1 = (.int i1) := Option.some.inj ei1
  obtain ⟨n, o, h1, h2, h3, _, L, rfl, ⟨rfl, N⟩, hq⟩ := own_rm0 l s _ hw tables_1 i0 i1 s.heap s.heap.size (Nat.le_refl _) p e ha hc hk s m _ below hf ((Spec.applies_iff_loose hf).mp happ).1 ⟨rfl, State.Warmed39.refl s, rfl⟩ trivial
  refine ⟨n, _, h1, h2, h3, hpost _ _ _ _ _ _ ⟨Cond.after_iff.mpr rfl, Cond.after_iff.mpr (eq_i res_at (Term.int_eval (1)) (congrArg Value.int (own_law i0 i1))), trivial⟩ ⟨hq.1, hq.2.1, (hq.2.2.sift fun y hy => Or.inr (N y hy)).mono (by decide) (by decide)⟩⟩
theorem main_1_1 : Claimed_1_1 := comes_1 fun _ _ _ _ _ _ h hF => ⟨h.1, hF⟩
theorem main_1_2 : Claimed_1_2 := comes_1 fun _ _ _ _ _ _ h hF => ⟨h.2.1, hF⟩
end Jvm.Pilot.@@N@@
namespace Jvm.Pilot.@@N@@
open Jvm Jvm.ClassFile Sem Op Lib Jvm.Free Jvm.Stand Jvm.Pilot.@@N@@.Jvm.D
/-! MADE BY PROGRAM (witnessworld.py) out of the Statement's table words and the real class files: 9 classes; the members and pool entries that the words name. The judged class is class 1, her method 1. -/
namespace start1
open Jvm.ClassFile
def u (s : String) : CpInfo := .utf8 (stringToUtf16 s)
/-- a pool by its gaps: so many unusable entries, then the entry; so many at the end -/
def gap : Nat → List CpInfo → List CpInfo
  | 0, r => r
  | n + 1, r => .unusable :: gap n r
def poolList (es : List (Nat × CpInfo)) (last : Nat) : List CpInfo := es.foldr (fun e r => gap e.1 (e.2 :: r)) (gap last [])
def pool (es : List (Nat × CpInfo)) (last : Nat) : Array CpInfo := ⟨poolList es last⟩
def fileOf (pool : Array CpInfo) (this : Nat) (attrs : Array Attribute := #[]) (ms : Array MethodInfo := #[]) (fl : Nat := 33) (sup : Nat := 0) (ifs : Array Nat := #[]) (fds : Array FieldInfo := #[]) : ClassFile where
  minorVersion := 0
  majorVersion := 65
  constantPool := pool
  accessFlags := fl
  thisClass := this
  superClass := sup
  interfaces := ifs
  fields := fds
  methods := ms
  attributes := attrs
def plain (name : String) (sup : Option ClassId) : Class where
  name := name
  kind := .ordinary
  loader := none
  accessFlags := 33
  super := sup
  interfaces := #[]
  cf := none
  fields := #[]
  methods := #[]
  instanceTypes := #[]
  staticTypes := #[]
  resolved := #[]
  callSites := []
  init := .initialized
  statics := none
  mirror := none

def pool0 : Array CpInfo := pool [(5, u "<init>"), (0, u "()V"), (1, .class_ 10), (1, u "java/lang/Object")] 113

def k0m0 : Method := { name := "<init>", desc := "()V", sig := { parameters := [], returnType := none }, accessFlags := 1, code := none }
/-- java/lang/Object -/
def k0 : Class := { plain "java/lang/Object" none with
  accessFlags := 33
  interfaces := #[]
  cf := some (fileOf pool0 8 #[] #[{ accessFlags := 1, nameIndex := 5, descriptorIndex := 6, attributes := #[] }] 33 0 #[] #[])
  fields := #[]
  methods := #[k0m0]
  instanceTypes := #[]
  staticTypes := #[]
  resolved := Array.replicate 124 none
  statics := none }

def pool1 : Array CpInfo := pool [(2, .class_ 4), (1, u "java/lang/Object"), (0, u "<init>"), (0, u "()V"), (0, .methodref 8 9), (0, .class_ 10), (0, .nameAndType 11 12), (0, u "com/example/castd/castd/mqtt/VariableByteInteger"), (0, u "length"), (0, u "([BI)I"), (0, .class_ 14), (0, u "com/example/castd/castd/mqtt/VariableByteIntegerLengthPinLaw"), (2, u "law"), (0, u "(JI)Z")] 5

def k1m0 : Method := { name := "<init>", desc := "()V", sig := { parameters := [], returnType := none }, accessFlags := 1, code := none }
def k1c1 : Code := { maxStack := 5, maxLocals := 9, code := code, exceptionTable := #[], attributes := #[] }
def k1m1 : Method := { name := "law", desc := "(JI)Z", sig := { parameters := [.long, .int], returnType := some .boolean }, accessFlags := 9, code := some k1c1 }
/-- com/example/castd/castd/mqtt/VariableByteIntegerLengthPinLaw -/
def k1 : Class := { plain "com/example/castd/castd/mqtt/VariableByteIntegerLengthPinLaw" (some 0) with
  accessFlags := 49
  interfaces := #[]
  cf := some (fileOf pool1 13 #[] #[{ accessFlags := 1, nameIndex := 5, descriptorIndex := 6, attributes := #[] }, { accessFlags := 9, nameIndex := 17, descriptorIndex := 18, attributes := #[] }] 49 2 #[] #[])
  fields := #[]
  methods := #[k1m0, k1m1]
  instanceTypes := #[]
  staticTypes := #[]
  resolved := Array.replicate 24 none
  statics := none }

def pool2 : Array CpInfo := pool [(2, .class_ 4), (1, u "java/lang/Object"), (0, u "<init>"), (0, u "()V"), (0, .class_ 8), (0, u "com/example/castd/castd/mqtt/VariableByteInteger"), (9, u "length"), (1, u "MAX_VALUE"), (0, u "I"), (2, u "INCOMPLETE"), (1, u "MAX_LENGTH"), (6, u "([BI)I")] 6

def k2m0 : Method := { name := "<init>", desc := "()V", sig := { parameters := [], returnType := none }, accessFlags := 2, code := none }
def k2c1 : Code := { maxStack := 3, maxLocals := 3, code := prog_95_method_3_code, exceptionTable := #[], attributes := #[] }
def k2m1 : Method := { name := "length", desc := "([BI)I", sig := { parameters := [(.array .byte), .int], returnType := some .int }, accessFlags := 8, code := some k2c1 }
/-- com/example/castd/castd/mqtt/VariableByteInteger -/
def k2 : Class := { plain "com/example/castd/castd/mqtt/VariableByteInteger" (some 0) with
  accessFlags := 32
  interfaces := #[]
  cf := some (fileOf pool2 7 #[] #[{ accessFlags := 2, nameIndex := 5, descriptorIndex := 6, attributes := #[] }, { accessFlags := 8, nameIndex := 18, descriptorIndex := 33, attributes := #[] }] 32 2 #[] #[{ accessFlags := 24, nameIndex := 20, descriptorIndex := 21, attributes := #[] }, { accessFlags := 24, nameIndex := 24, descriptorIndex := 21, attributes := #[] }, { accessFlags := 26, nameIndex := 26, descriptorIndex := 21, attributes := #[] }])
  fields := #[{ name := "MAX_VALUE", type := .int, accessFlags := 24, slot := 0, constantValue := 0 }, { name := "INCOMPLETE", type := .int, accessFlags := 24, slot := 1, constantValue := 0 }, { name := "MAX_LENGTH", type := .int, accessFlags := 26, slot := 2, constantValue := 0 }]
  methods := #[k2m0, k2m1]
  instanceTypes := #[]
  staticTypes := #[.int, .int, .int]
  resolved := Array.replicate 40 none
  statics := none }

def pool3 : Array CpInfo := pool [(1, u "java/lang/Cloneable"), (0, .class_ 1), (0, u "java/lang/Object"), (0, .class_ 3)] 3

/-- java/lang/Cloneable -/
def k3 : Class := { plain "java/lang/Cloneable" (some 0) with
  accessFlags := 1537
  interfaces := #[]
  cf := some (fileOf pool3 2 #[] #[] 1537 4 #[] #[])
  fields := #[]
  methods := #[]
  instanceTypes := #[]
  staticTypes := #[]
  resolved := Array.replicate 8 none
  statics := none }

def pool4 : Array CpInfo := pool [(1, u "java/io/Serializable"), (0, .class_ 1), (0, u "java/lang/Object"), (0, .class_ 3)] 3

/-- java/io/Serializable -/
def k4 : Class := { plain "java/io/Serializable" (some 0) with
  accessFlags := 1537
  interfaces := #[]
  cf := some (fileOf pool4 2 #[] #[] 1537 4 #[] #[])
  fields := #[]
  methods := #[]
  instanceTypes := #[]
  staticTypes := #[]
  resolved := Array.replicate 8 none
  statics := none }

/-- the primitive byte -/
def k5 : Class := { plain "byte" none with kind := .primitive 'B', accessFlags := 0x411 }
/-- [B -/
def k6 : Class := { plain "[B" (some 0) with kind := .array 5 .byte, interfaces := #[3, 4], accessFlags := 1041 }

/-- the primitive int -/
def k7 : Class := { plain "int" none with kind := .primitive 'I', accessFlags := 0x411 }
/-- [I -/
def k8 : Class := { plain "[I" (some 0) with kind := .array 7 .int, interfaces := #[3, 4], accessFlags := 1041 }

def heap : Heap := #[]
def classes : Array Class := #[k0, k1, k2, k3, k4, k5, k6, k7, k8]
def interned : List (Array UInt16 × Addr) := []
def slotsUsed : Nat := 0
def theMethod : MethodId := ⟨1, 1⟩
def args0 : Array Value := #[.long 5, .int 1]
def aboutOver (below : List Frame) : State where
  vm := { classes := classes, interned := interned.toArray }
  heap := heap
  slotsUsed := slotsUsed
  threads := #[{ frames := .invoking theMethod args0 :: below }]
def below0 : List Frame := [.native { method := ⟨0, 0⟩, args := #[] }]
def about1 : State := aboutOver below0
def p0 : Program := .bare "" "" ""
def e0 : Env := launch0.env 0 0 0
theorem w_frames : about1.frames = Frame.invoking theMethod args0 :: below0 := rfl
set_option maxRecDepth 65536 in
theorem w_args : argsFit about1.vm theMethod args0 = true := by decide +kernel
set_option maxRecDepth 65536 in
theorem w_heap : heapFits about1 = true := by decide +kernel
set_option maxRecDepth 65536 in
theorem w_runnable : about1.curStatus? = some .runnable := by decide +kernel
set_option maxRecDepth 65536 in
theorem w_alone : about1.alone = true := by decide +kernel
set_option maxRecDepth 65536 in
theorem w_named : about1.methodNamed? x = some theMethod := by decide +kernel
set_option maxRecDepth 65536 in
theorem w_hears : about1.hears theMethod below0 = true := by decide +kernel
set_option maxRecDepth 65536 in
theorem w_ripe : about1.ripe theMethod args0 below0 = true := by decide +kernel
theorem w_running : about1.status = .running := rfl
set_option maxRecDepth 65536 in
theorem w_room : about1.hasRoom e0.platform room_1 = true :=
  launch0.hasRoom_least _ room_1 (by decide +kernel) (by decide +kernel) (by decide +kernel) (by decide +kernel) (by decide +kernel) (by decide +kernel)
theorem allAtoms_all (ts : List Jvm.Cond) (a : Array Jvm.Value) (st : Jvm.State) : (allAtoms ts).before a st = ts.all (fun c => c.before a st) := by
  induction ts with
  | nil => rfl
  | cons c t ih =>
    show (Jvm.Cond.and c (allAtoms t)).before a st = _
    rw [Jvm.Cond.before_and, ih, List.all_cons]
def words1 : List Jvm.Cond := Jvm.Cond.code x code maxLocals ret :: tables_1
/-- a 'code' word, met by the world's own term for the bytes: nothing is compared byte by byte -/
theorem code_word {y : MethodName} {bytes : ByteArray} {mx : Nat} {rt : Option FieldType} {a : Array Value} {s : State} {m : MethodId} {meth : Method} {c : Code} (h1 : s.methodNamed? y = some m) (h2 : s.vm.method? m = some meth) (h3 : meth.code = some c) (h4 : c.code = bytes)
    (h5 : (c.maxLocals == mx && c.exceptionTable.isEmpty && decide (c.maxStack ≤ mostOperands) && decide (meth.sig.returnType = rt) && !meth.locks && decide (parseMethodDescriptor y.desc = some meth.sig)) = true) : (Jvm.Cond.code y bytes mx rt).before a s = true := by
  simp only [Bool.and_eq_true, beq_iff_eq, Bool.not_eq_true', decide_eq_true_eq] at h5
  obtain ⟨⟨⟨⟨⟨g1, g2⟩, g3⟩, g4⟩, g5⟩, g6⟩ := h5
  simp [Cond.before, Cond.holds, Cond.value, h1, h2, h3, h4, g1, g2, g3, g4, g5, g6]
def isCode : Jvm.Cond → Bool
  | .code _ _ _ _ => true
  | _ => false
theorem all_split {L : List Jvm.Cond} {P : Jvm.Cond → Bool} (h1 : L.all (fun c => isCode c || P c) = true) (h2 : ∀ c ∈ L.filter isCode, P c = true) : L.all P = true := by
  refine List.all_eq_true.mpr fun c hc => ?_
  have h := List.all_eq_true.mp h1 c hc
  rcases Bool.eq_false_or_eq_true (isCode c) with hi | hi
  · exact h2 c (List.mem_filter.mpr ⟨hc, hi⟩)
  · simpa [hi] using h
set_option maxRecDepth 65536 in
theorem w_c0 : (Jvm.Cond.code x code maxLocals ret).before args0 about1 = true := code_word (m := ⟨1, 1⟩) (meth := k1m1) (c := k1c1) (by decide +kernel) rfl rfl rfl (by decide +kernel)
set_option maxRecDepth 65536 in
theorem w_c1 : (Jvm.Cond.code ({ cls := "com/example/castd/castd/mqtt/VariableByteInteger", name := "length", desc := "([BI)I" } : Jvm.MethodName) prog_95_method_3_code (3 : Nat) (Option.some Jvm.ClassFile.FieldType.int)).before args0 about1 = true := code_word (m := ⟨2, 1⟩) (meth := k2m1) (c := k2c1) (by decide +kernel) rfl rfl rfl (by decide +kernel)
def codes1 : List Jvm.Cond := [Jvm.Cond.code x code maxLocals ret, Jvm.Cond.code ({ cls := "com/example/castd/castd/mqtt/VariableByteInteger", name := "length", desc := "([BI)I" } : Jvm.MethodName) prog_95_method_3_code (3 : Nat) (Option.some Jvm.ClassFile.FieldType.int)]
set_option maxRecDepth 65536 in
theorem codes_eq : words1.filter isCode = codes1 := rfl
theorem w_codes : ∀ c ∈ words1.filter isCode, c.before args0 about1 = true := by
  rw [codes_eq]
  intro c hc
  simp only [codes1, List.mem_cons, List.not_mem_nil, or_false] at hc
  rcases hc with rfl | rfl
  · exact w_c0
  · exact w_c1
set_option maxRecDepth 65536 in
theorem w_t1 : words1.all (fun c => isCode c || c.before args0 about1) = true := by decide +kernel
theorem w_tables : (allAtoms (Jvm.Cond.code x code maxLocals ret :: tables_1)).before args0 about1 = true := by
  rw [allAtoms_all]
  show words1.all (fun c => c.before args0 about1) = true
  refine all_split ?_ w_codes
  rw [w_t1]
set_option maxRecDepth 65536 in
theorem w_case : (Jvm.Cond.and given_1 narrow_1).before args0 about1 = true := by decide +kernel
theorem w_applies : (headSpec (Jvm.Cond.code x code maxLocals ret :: tables_1) room_1).applies x e0.platform about1 = true :=
  (Spec.applies_iff w_frames).mpr ⟨w_running, w_runnable, w_alone, w_named, w_hears, w_ripe, w_room, w_tables⟩
theorem atStart : AtStart classFile x code maxLocals ret World_1 tables_1 room_1 Calls_1 rest_1 Pre_1 launch0 p0 e0 about1 theMethod args0 below0 :=
  ⟨lists_1, trivial, launch0.admits_env _ _ _, launch0.least_env, fairChoices_fair.cas, fairChoices_fair.clock, w_frames, w_args, w_heap, w_applies, trivial, trivial, w_case⟩
end start1
theorem witness_1 : WitnessClaimed_1 := ⟨start1.p0, start1.e0, start1.about1, start1.theMethod, start1.args0, start1.below0, start1.atStart⟩
end Jvm.Pilot.@@N@@
