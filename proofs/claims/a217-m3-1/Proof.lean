import JvmDerived
import JvmDerived.Pilot.@@N@@Statement
import JvmDerived.Pilot.@@N@@Code
set_option linter.unusedVariables false
set_option linter.unusedSimpArgs false
namespace Jvm.RoadKit
open Sem ClassFile Op Lib Jvm.Stand Jvm.Free Jvm.LawKit
section New
variable {p : Program} {l : Launch} {e : Env} {R : Room} {s : State} {m : MethodId} {args : Array Value} {below : List Frame} {meth : Method} {c : Code} {T : State} {locs : List Loc} {cells slots : Nat}
theorem retI (X : Stand p l e R s m args below meth c T locs cells slots) (hx : p.tables.exec = Jvm.exec) {pc : Nat} {Ls : Array Slot} {z : Int32} {rest : List Value} (hret : meth.sig.returnType = some .int) (hd : decode c.code pc = .ok (.ireturn, 1)) {fs : List Frame}
    (hl : ∀ (f : JFrame) (acts : List Action), f.method = m → f.locked = none → f.entered = [] → (doReturn e (T.setTop f) acts (some (.int z))).1 = T.setFrames fs) : Steps p.tables e below (T.setTop (mkF m pc Ls (.int z :: rest))) (T.setFrames fs) := by
  have hm' : T.vm.method? m = some meth := X.method'
  have hn : narrow .int (.int z) = .int z := rfl
  show Steps p.tables e below (T.setTop { method := m, pc := pc, locals := Ls, stack := _ :: rest, locked := none }) _
  jvm_step X.here [X.here.top, hx, hd, hm', hret, hn]
  first | (intro acts; rw [hl _ acts rfl rfl rfl]) | rw [hl _ _ rfl rfl rfl]
  exact Steps.refl _
end New
end Jvm.RoadKit
namespace Jvm.Pilot.@@N@@
open Jvm Jvm.ClassFile Sem Op Lib Jvm.Free Jvm.Stand Jvm.LawKit Jvm.RoadKit Bundle Jvm.Pilot.@@N@@.Jvm.D
theorem own_pn0 : plainName "com/example/kerb/kerb/txn/SoleLocks" = true := by first | (simp [plainName, overriddenIn]; done) | decide +kernel
theorem own_pn18 : plainName "com/example/kerb/kerb/txn/SoleLocksLengthPinLaw" = true := by first | (simp [plainName, overriddenIn]; done) | decide +kernel
theorem own_pd69 : parseMethodDescriptor "(I)I" = some ⟨[.int], some .int⟩ := by decide +kernel
theorem own_rng (p d : Int32) (D : Int) (hd : d.toInt = D) (h1 : 1 < D) : 0 ≤ ((p &&& (2147483647 : Int32)) - ((p &&& (2147483647 : Int32)) / d) * d).toInt ∧ ((p &&& (2147483647 : Int32)) - ((p &&& (2147483647 : Int32)) / d) * d).toInt < D := by
  have hx : 0 ≤ (p &&& (2147483647 : Int32)).toInt := by
    have := c_mask p 2147483647 31 (by decide) (by decide); omega
  generalize (p &&& (2147483647 : Int32)) = x at hx
  have r := rng32 x
  have hn : d ≠ -1 := fun q => by rw [q] at hd; have e : (-1 : Int32).toInt = -1 := by decide
                                  omega
  have e1 := (c_idiv x d D hd hn).1 hx
  have e2 : (x / d * d).toInt = x.toInt / D * D := by
    rw [Int32.toInt_mul, e1, hd]
    have m1 := Int.emod_nonneg x.toInt (show D ≠ 0 by omega)
    have m2 := Int.emod_lt_of_pos x.toInt (show 0 < D by omega)
    have m3 := Int.mul_ediv_add_emod x.toInt D
    have m4 : 0 ≤ x.toInt / D := Int.ediv_nonneg hx (by omega)
    have m5 : 0 ≤ x.toInt / D * D := Int.mul_nonneg m4 (by omega)
    rw [Int.mul_comm] at m3
    exact Int.bmod_eq_of_le (by omega) (by omega)
  have m1 := Int.emod_nonneg x.toInt (show D ≠ 0 by omega)
  have m2 := Int.emod_lt_of_pos x.toInt (show 0 < D by omega)
  have m3 := Int.mul_ediv_add_emod x.toInt D
  rw [Int.mul_comm] at m3
  have m4 : 0 ≤ x.toInt / D := Int.ediv_nonneg hx (by omega)
  have m5 : 0 ≤ x.toInt / D * D := Int.mul_nonneg m4 (by omega)
  have e3 : (x - x / d * d).toInt = x.toInt - x.toInt / D * D := by
    rw [Int32.toInt_sub, e2]
    exact Int.bmod_eq_of_le (by omega) (by omega)
  rw [e3]; omega
theorem own_ne {v k : Int32} {K : Int} (h : ¬ v = k) (hk : k.toInt = K) : v.toInt ≠ K := fun q => h (Int32.toInt_inj.mp (q.trans hk.symm))
theorem own_exh (p : Int32) (h0 : ¬ ((p &&& (2147483647 : Int32)) - ((p &&& (2147483647 : Int32)) / (9 : Int32)) * (9 : Int32)) = (0 : Int32)) (h1 : ¬ ((p &&& (2147483647 : Int32)) - ((p &&& (2147483647 : Int32)) / (9 : Int32)) * (9 : Int32)) = (1 : Int32)) (h2 : ¬ ((p &&& (2147483647 : Int32)) - ((p &&& (2147483647 : Int32)) / (9 : Int32)) * (9 : Int32)) = (2 : Int32)) (h3 : ¬ ((p &&& (2147483647 : Int32)) - ((p &&& (2147483647 : Int32)) / (9 : Int32)) * (9 : Int32)) = (3 : Int32)) (h4 : ¬ ((p &&& (2147483647 : Int32)) - ((p &&& (2147483647 : Int32)) / (9 : Int32)) * (9 : Int32)) = (4 : Int32)) (h5 : ¬ ((p &&& (2147483647 : Int32)) - ((p &&& (2147483647 : Int32)) / (9 : Int32)) * (9 : Int32)) = (5 : Int32)) (h6 : ¬ ((p &&& (2147483647 : Int32)) - ((p &&& (2147483647 : Int32)) / (9 : Int32)) * (9 : Int32)) = (6 : Int32)) (h7 : ¬ ((p &&& (2147483647 : Int32)) - ((p &&& (2147483647 : Int32)) / (9 : Int32)) * (9 : Int32)) = (7 : Int32)) : ((p &&& (2147483647 : Int32)) - ((p &&& (2147483647 : Int32)) / (9 : Int32)) * (9 : Int32)) = (8 : Int32) := by
  have r := own_rng p 9 9 (by decide) (by decide)
  have n0 := own_ne (K := 0) h0 (by decide)
  have n1 := own_ne (K := 1) h1 (by decide)
  have n2 := own_ne (K := 2) h2 (by decide)
  have n3 := own_ne (K := 3) h3 (by decide)
  have n4 := own_ne (K := 4) h4 (by decide)
  have n5 := own_ne (K := 5) h5 (by decide)
  have n6 := own_ne (K := 6) h6 (by decide)
  have n7 := own_ne (K := 7) h7 (by decide)
  refine Int32.toInt_inj.mp ?_
  rw [show (8 : Int32).toInt = 8 from by decide]
  omega
-- body 1
theorem own_d1_0 : decode prog_118_method_13_code 0 = .ok (.iconst 0, 1) := by decide +kernel
theorem own_d1_1 : decode prog_118_method_13_code 1 = .ok (.istore_n 1, 1) := by decide +kernel
theorem own_d1_2 : decode prog_118_method_13_code 2 = .ok (.iload_n 1, 1) := by decide +kernel
theorem own_d1_3 : decode prog_118_method_13_code 3 = .ok (.bipush 8, 2) := by decide +kernel
theorem own_d1_5 : decode prog_118_method_13_code 5 = .ok (.if_icmp .ge 20, 3) := by decide +kernel
theorem own_d1_8 : decode prog_118_method_13_code 8 = .ok (.iload_n 0, 1) := by decide +kernel
theorem own_d1_9 : decode prog_118_method_13_code 9 = .ok (.iconst 4, 1) := by decide +kernel
theorem own_d1_10 : decode prog_118_method_13_code 10 = .ok (.iload_n 1, 1) := by decide +kernel
theorem own_d1_11 : decode prog_118_method_13_code 11 = .ok (.imul, 1) := by decide +kernel
theorem own_d1_12 : decode prog_118_method_13_code 12 = .ok (.iushr, 1) := by decide +kernel
theorem own_d1_13 : decode prog_118_method_13_code 13 = .ok (.bipush 15, 2) := by decide +kernel
theorem own_d1_15 : decode prog_118_method_13_code 15 = .ok (.iand, 1) := by decide +kernel
theorem own_d1_16 : decode prog_118_method_13_code 16 = .ok (.ifCond .eq 9, 3) := by decide +kernel
theorem own_d1_19 : decode prog_118_method_13_code 19 = .ok (.iinc 1 1, 3) := by decide +kernel
theorem own_d1_22 : decode prog_118_method_13_code 22 = .ok (.goto (-20), 3) := by decide +kernel
theorem own_d1_25 : decode prog_118_method_13_code 25 = .ok (.iload_n 1, 1) := by decide +kernel
theorem own_d1_26 : decode prog_118_method_13_code 26 = .ok (.ireturn, 1) := by decide +kernel
theorem own_ef1 (m : MethodId) (x0 : Int32) : entryFrame m #[(.int x0)] 2 = mkF m 0 #[.val (.int x0), .unset] [] := by first | (simp [entryFrame, mkF, argsToLocals, Value.category]; done) | rfl
def own_f1 (p1 : Int32) : Int32 := if (((p1.toUInt32 >>> ((0 : Int32) &&& 31).toUInt32).toInt32) &&& (15 : Int32)) = (0 : Int32) then (0 : Int32)
    else if (((p1.toUInt32 >>> ((4 : Int32) &&& 31).toUInt32).toInt32) &&& (15 : Int32)) = (0 : Int32) then (1 : Int32)
      else if (((p1.toUInt32 >>> ((8 : Int32) &&& 31).toUInt32).toInt32) &&& (15 : Int32)) = (0 : Int32) then (2 : Int32)
        else if (((p1.toUInt32 >>> ((12 : Int32) &&& 31).toUInt32).toInt32) &&& (15 : Int32)) = (0 : Int32) then (3 : Int32)
          else if (((p1.toUInt32 >>> ((16 : Int32) &&& 31).toUInt32).toInt32) &&& (15 : Int32)) = (0 : Int32) then (4 : Int32)
            else if (((p1.toUInt32 >>> ((20 : Int32) &&& 31).toUInt32).toInt32) &&& (15 : Int32)) = (0 : Int32) then (5 : Int32)
              else if (((p1.toUInt32 >>> ((24 : Int32) &&& 31).toUInt32).toInt32) &&& (15 : Int32)) = (0 : Int32) then (6 : Int32)
                else if (((p1.toUInt32 >>> ((28 : Int32) &&& 31).toUInt32).toInt32) &&& (15 : Int32)) = (0 : Int32) then (7 : Int32)
                  else (8 : Int32)
def own_Q1 (Z : State) (p1 : Int32) (h0 : Heap) (n0 : Nat) (v : Option Value) (h : Heap) (L : List Loc) : Prop := v = some (.int (own_f1 p1)) ∧ Fr n0 L ∧ h = h0
set_option maxRecDepth 65536 in
set_option maxHeartbeats 40000000 in
theorem own_rm1 (l : Launch) (Z : State) (a0 : Array Value) (hw : ∀ d ∈ tables_1, d.before a0 Z = true) (ws : List Jvm.Cond) (p1 : Int32) (h0 : Heap) (n0 : Nat) (Z0 : n0 ≤ h0.size) :
    MetFree l (⟨"com/example/kerb/kerb/txn/SoleLocks", "length", "(I)I"⟩ : MethodName) (head1 (Jvm.Cond.code (⟨"com/example/kerb/kerb/txn/SoleLocks", "length", "(I)I"⟩ : MethodName) prog_118_method_13_code 2 (some .int) :: ws) ({ frames := 0, cells := 0, slots := 0, locals := 0 } : Room)) (fun a U => a = #[(.int p1)] ∧ Z.Warmed39 U.vm ∧ U.heap = h0) (fun _ _ _ _ _ => True) (fun _ U o U' => ∃ v L, o = .returned v ∧ own_Q1 Z p1 h0 n0 v U'.heap L ∧ FrameEnd U o U' L ({ frames := 0, cells := 0, slots := 0, locals := 0 } : Room).cells ({ frames := 0, cells := 0, slots := 0, locals := 0 } : Room).slots) := by
  refine MetFree.of_bodySF (plainFor_of_name own_pn0) hisR ?_
  intro p e s m args below meth c s₁ Bd hml0 hP hK
  obtain ⟨rfl, hZ, hh⟩ := hP
  have hx := Bd.exec
  have hby := Bd.bytes
  have hml : c.maxLocals = 2 := hml0
  have hown : s.vm.findClass "com/example/kerb/kerb/txn/SoleLocks" = some m.cls := findClass_of_methodNamed Bd.named
  have hnm := (name_of_methodNamed Bd.named Bd.method).1
  have X0 : Stand p l e ({ frames := 0, cells := 0, slots := 0, locals := 0 } : Room) s m #[(.int p1)] below meth c s₁ [] 0 0 := Stand.of_body Bd
  have e0 : s₁.heap = h0 := by rw [← hh, Bd.state]; rfl
  have N0 := Fr.nil n0
  have pre0 : ∀ t, Steps p.tables e below (s₁.setTop (mkF m 0 #[.val (.int p1), .unset] [])) t → Steps p.tables e below (s₁.setTop (entryFrame m #[(.int p1)] 2)) t := fun t k => castTop (own_ef1 m p1) k
  have k1 : ∀ t, Steps p.tables e below (s₁.setTop (mkF m 16 #[.val (.int p1), .val (.int (0 : Int32))] [(.int (((p1.toUInt32 >>> ((0 : Int32) &&& 31).toUInt32).toInt32) &&& (15 : Int32)))])) t → Steps p.tables e below (s₁.setTop (entryFrame m #[(.int p1)] 2)) t := by
    intro t kt
    refine pre0 t ?_
    show Steps p.tables e below (s₁.setTop (mkF m 0 #[.val (.int p1), .unset] [])) _
    refine XS.iconst X0.here hx rfl (hb hby own_d1_0) ?_
    show Steps p.tables e below (s₁.setTop (mkF m 1 #[.val (.int p1), .unset] [(.int (0 : Int32))])) _
    refine XS.istoreN X0.here hx rfl (hb hby own_d1_1) rfl (l' := #[.val (.int p1), .val (.int (0 : Int32))]) rfl ?_
    show Steps p.tables e below (s₁.setTop (mkF m 2 #[.val (.int p1), .val (.int (0 : Int32))] [])) _
    refine XS.iloadN X0.here hx rfl (hb hby own_d1_2) rfl ?_
    show Steps p.tables e below (s₁.setTop (mkF m 3 #[.val (.int p1), .val (.int (0 : Int32))] [(.int (0 : Int32))])) _
    refine XS.bipush X0.here hx rfl (hb hby own_d1_3) ?_
    show Steps p.tables e below (s₁.setTop (mkF m 5 #[.val (.int p1), .val (.int (0 : Int32))] [(.int (8 : Int32)), (.int (0 : Int32))])) _
    refine XS.icmpNo X0.here hx rfl (hb hby own_d1_5) rfl (tlt (by decide : (0 : Int32) < (8 : Int32))).2.1 ?_
    show Steps p.tables e below (s₁.setTop (mkF m 8 #[.val (.int p1), .val (.int (0 : Int32))] [])) _
    refine XS.iloadN X0.here hx rfl (hb hby own_d1_8) rfl ?_
    show Steps p.tables e below (s₁.setTop (mkF m 9 #[.val (.int p1), .val (.int (0 : Int32))] [(.int p1)])) _
    refine XS.iconst X0.here hx rfl (hb hby own_d1_9) ?_
    show Steps p.tables e below (s₁.setTop (mkF m 10 #[.val (.int p1), .val (.int (0 : Int32))] [(.int (4 : Int32)), (.int p1)])) _
    refine XS.iloadN X0.here hx rfl (hb hby own_d1_10) rfl ?_
    show Steps p.tables e below (s₁.setTop (mkF m 11 #[.val (.int p1), .val (.int (0 : Int32))] [(.int (0 : Int32)), (.int (4 : Int32)), (.int p1)])) _
    refine XS.imul X0.here hx rfl (hb hby own_d1_11) rfl ?_
    show Steps p.tables e below (s₁.setTop (mkF m 12 #[.val (.int p1), .val (.int (0 : Int32))] [(.int (0 : Int32)), (.int p1)])) _
    refine XS.iushr X0.here hx rfl (hb hby own_d1_12) rfl ?_
    show Steps p.tables e below (s₁.setTop (mkF m 13 #[.val (.int p1), .val (.int (0 : Int32))] [(.int ((p1.toUInt32 >>> ((0 : Int32) &&& 31).toUInt32).toInt32))])) _
    refine XS.bipush X0.here hx rfl (hb hby own_d1_13) ?_
    show Steps p.tables e below (s₁.setTop (mkF m 15 #[.val (.int p1), .val (.int (0 : Int32))] [(.int (15 : Int32)), (.int ((p1.toUInt32 >>> ((0 : Int32) &&& 31).toUInt32).toInt32))])) _
    refine XS.iand X0.here hx rfl (hb hby own_d1_15) rfl ?_
    exact kt
  by_cases hc1 : (((p1.toUInt32 >>> ((0 : Int32) &&& 31).toUInt32).toInt32) &&& (15 : Int32)) = (0 : Int32)
  ·
    obtain ⟨fs, hr, hrun, hended, hW, hsame⟩ := X0.leave (v := some (.int (0 : Int32))) (fun h => by rw [Bd.returns] at h; cases h)
    refine ⟨_, _, k1 _ ?_, hrun, hended, _, _, rfl, ?_, ⟨_, rfl⟩, hW, hsame.mono (by decide) (by decide)⟩
    · show Steps p.tables e below (s₁.setTop (mkF m 16 #[.val (.int p1), .val (.int (0 : Int32))] [(.int (((p1.toUInt32 >>> ((0 : Int32) &&& 31).toUInt32).toInt32) &&& (15 : Int32)))])) _
      refine XS.ifYes X0.here hx rfl (pc0 := 16) (pc' := 25) rfl (hb hby own_d1_16) rfl ((if0 _ _).trans (teq hc1).1) (by decide) (by decide) ?_
      show Steps p.tables e below (s₁.setTop (mkF m 25 #[.val (.int p1), .val (.int (0 : Int32))] [])) _
      refine XS.iloadN X0.here hx rfl (hb hby own_d1_25) rfl ?_
      show Steps p.tables e below (s₁.setTop (mkF m 26 #[.val (.int p1), .val (.int (0 : Int32))] [(.int (0 : Int32))])) _
      exact retI X0 hx Bd.returns (hb hby own_d1_26) hr
    · show own_Q1 Z p1 h0 n0 _ s₁.heap _
      rw [e0]
      exact ⟨(by rw [own_f1, if_pos hc1]), N0, rfl⟩
  ·
    have k2 : ∀ t, Steps p.tables e below (s₁.setTop (mkF m 16 #[.val (.int p1), .val (.int (1 : Int32))] [(.int (((p1.toUInt32 >>> ((4 : Int32) &&& 31).toUInt32).toInt32) &&& (15 : Int32)))])) t → Steps p.tables e below (s₁.setTop (entryFrame m #[(.int p1)] 2)) t := by
      intro t kt
      refine k1 t ?_
      show Steps p.tables e below (s₁.setTop (mkF m 16 #[.val (.int p1), .val (.int (0 : Int32))] [(.int (((p1.toUInt32 >>> ((0 : Int32) &&& 31).toUInt32).toInt32) &&& (15 : Int32)))])) _
      refine XS.ifNo X0.here hx rfl (hb hby own_d1_16) rfl ((if0 _ _).trans (feq hc1).1) ?_
      show Steps p.tables e below (s₁.setTop (mkF m 19 #[.val (.int p1), .val (.int (0 : Int32))] [])) _
      refine XS.iinc X0.here hx rfl (hb hby own_d1_19) rfl (l' := #[.val (.int p1), .val (.int (1 : Int32))]) rfl ?_
      show Steps p.tables e below (s₁.setTop (mkF m 22 #[.val (.int p1), .val (.int (1 : Int32))] [])) _
      refine XS.goto X0.here hx rfl (pc0 := 22) (pc' := 2) rfl (hb hby own_d1_22) (by decide) (by decide) ?_
      show Steps p.tables e below (s₁.setTop (mkF m 2 #[.val (.int p1), .val (.int (1 : Int32))] [])) _
      refine XS.iloadN X0.here hx rfl (hb hby own_d1_2) rfl ?_
      show Steps p.tables e below (s₁.setTop (mkF m 3 #[.val (.int p1), .val (.int (1 : Int32))] [(.int (1 : Int32))])) _
      refine XS.bipush X0.here hx rfl (hb hby own_d1_3) ?_
      show Steps p.tables e below (s₁.setTop (mkF m 5 #[.val (.int p1), .val (.int (1 : Int32))] [(.int (8 : Int32)), (.int (1 : Int32))])) _
      refine XS.icmpNo X0.here hx rfl (hb hby own_d1_5) rfl (tlt (by decide : (1 : Int32) < (8 : Int32))).2.1 ?_
      show Steps p.tables e below (s₁.setTop (mkF m 8 #[.val (.int p1), .val (.int (1 : Int32))] [])) _
      refine XS.iloadN X0.here hx rfl (hb hby own_d1_8) rfl ?_
      show Steps p.tables e below (s₁.setTop (mkF m 9 #[.val (.int p1), .val (.int (1 : Int32))] [(.int p1)])) _
      refine XS.iconst X0.here hx rfl (hb hby own_d1_9) ?_
      show Steps p.tables e below (s₁.setTop (mkF m 10 #[.val (.int p1), .val (.int (1 : Int32))] [(.int (4 : Int32)), (.int p1)])) _
      refine XS.iloadN X0.here hx rfl (hb hby own_d1_10) rfl ?_
      show Steps p.tables e below (s₁.setTop (mkF m 11 #[.val (.int p1), .val (.int (1 : Int32))] [(.int (1 : Int32)), (.int (4 : Int32)), (.int p1)])) _
      refine XS.imul X0.here hx rfl (hb hby own_d1_11) rfl ?_
      show Steps p.tables e below (s₁.setTop (mkF m 12 #[.val (.int p1), .val (.int (1 : Int32))] [(.int (4 : Int32)), (.int p1)])) _
      refine XS.iushr X0.here hx rfl (hb hby own_d1_12) rfl ?_
      show Steps p.tables e below (s₁.setTop (mkF m 13 #[.val (.int p1), .val (.int (1 : Int32))] [(.int ((p1.toUInt32 >>> ((4 : Int32) &&& 31).toUInt32).toInt32))])) _
      refine XS.bipush X0.here hx rfl (hb hby own_d1_13) ?_
      show Steps p.tables e below (s₁.setTop (mkF m 15 #[.val (.int p1), .val (.int (1 : Int32))] [(.int (15 : Int32)), (.int ((p1.toUInt32 >>> ((4 : Int32) &&& 31).toUInt32).toInt32))])) _
      refine XS.iand X0.here hx rfl (hb hby own_d1_15) rfl ?_
      exact kt
    by_cases hc2 : (((p1.toUInt32 >>> ((4 : Int32) &&& 31).toUInt32).toInt32) &&& (15 : Int32)) = (0 : Int32)
    ·
      obtain ⟨fs, hr, hrun, hended, hW, hsame⟩ := X0.leave (v := some (.int (1 : Int32))) (fun h => by rw [Bd.returns] at h; cases h)
      refine ⟨_, _, k2 _ ?_, hrun, hended, _, _, rfl, ?_, ⟨_, rfl⟩, hW, hsame.mono (by decide) (by decide)⟩
      · show Steps p.tables e below (s₁.setTop (mkF m 16 #[.val (.int p1), .val (.int (1 : Int32))] [(.int (((p1.toUInt32 >>> ((4 : Int32) &&& 31).toUInt32).toInt32) &&& (15 : Int32)))])) _
        refine XS.ifYes X0.here hx rfl (pc0 := 16) (pc' := 25) rfl (hb hby own_d1_16) rfl ((if0 _ _).trans (teq hc2).1) (by decide) (by decide) ?_
        show Steps p.tables e below (s₁.setTop (mkF m 25 #[.val (.int p1), .val (.int (1 : Int32))] [])) _
        refine XS.iloadN X0.here hx rfl (hb hby own_d1_25) rfl ?_
        show Steps p.tables e below (s₁.setTop (mkF m 26 #[.val (.int p1), .val (.int (1 : Int32))] [(.int (1 : Int32))])) _
        exact retI X0 hx Bd.returns (hb hby own_d1_26) hr
      · show own_Q1 Z p1 h0 n0 _ s₁.heap _
        rw [e0]
        exact ⟨(by rw [own_f1, if_neg hc1, if_pos hc2]), N0, rfl⟩
    ·
      have k3 : ∀ t, Steps p.tables e below (s₁.setTop (mkF m 16 #[.val (.int p1), .val (.int (2 : Int32))] [(.int (((p1.toUInt32 >>> ((8 : Int32) &&& 31).toUInt32).toInt32) &&& (15 : Int32)))])) t → Steps p.tables e below (s₁.setTop (entryFrame m #[(.int p1)] 2)) t := by
        intro t kt
        refine k2 t ?_
        show Steps p.tables e below (s₁.setTop (mkF m 16 #[.val (.int p1), .val (.int (1 : Int32))] [(.int (((p1.toUInt32 >>> ((4 : Int32) &&& 31).toUInt32).toInt32) &&& (15 : Int32)))])) _
        refine XS.ifNo X0.here hx rfl (hb hby own_d1_16) rfl ((if0 _ _).trans (feq hc2).1) ?_
        show Steps p.tables e below (s₁.setTop (mkF m 19 #[.val (.int p1), .val (.int (1 : Int32))] [])) _
        refine XS.iinc X0.here hx rfl (hb hby own_d1_19) rfl (l' := #[.val (.int p1), .val (.int (2 : Int32))]) rfl ?_
        show Steps p.tables e below (s₁.setTop (mkF m 22 #[.val (.int p1), .val (.int (2 : Int32))] [])) _
        refine XS.goto X0.here hx rfl (pc0 := 22) (pc' := 2) rfl (hb hby own_d1_22) (by decide) (by decide) ?_
        show Steps p.tables e below (s₁.setTop (mkF m 2 #[.val (.int p1), .val (.int (2 : Int32))] [])) _
        refine XS.iloadN X0.here hx rfl (hb hby own_d1_2) rfl ?_
        show Steps p.tables e below (s₁.setTop (mkF m 3 #[.val (.int p1), .val (.int (2 : Int32))] [(.int (2 : Int32))])) _
        refine XS.bipush X0.here hx rfl (hb hby own_d1_3) ?_
        show Steps p.tables e below (s₁.setTop (mkF m 5 #[.val (.int p1), .val (.int (2 : Int32))] [(.int (8 : Int32)), (.int (2 : Int32))])) _
        refine XS.icmpNo X0.here hx rfl (hb hby own_d1_5) rfl (tlt (by decide : (2 : Int32) < (8 : Int32))).2.1 ?_
        show Steps p.tables e below (s₁.setTop (mkF m 8 #[.val (.int p1), .val (.int (2 : Int32))] [])) _
        refine XS.iloadN X0.here hx rfl (hb hby own_d1_8) rfl ?_
        show Steps p.tables e below (s₁.setTop (mkF m 9 #[.val (.int p1), .val (.int (2 : Int32))] [(.int p1)])) _
        refine XS.iconst X0.here hx rfl (hb hby own_d1_9) ?_
        show Steps p.tables e below (s₁.setTop (mkF m 10 #[.val (.int p1), .val (.int (2 : Int32))] [(.int (4 : Int32)), (.int p1)])) _
        refine XS.iloadN X0.here hx rfl (hb hby own_d1_10) rfl ?_
        show Steps p.tables e below (s₁.setTop (mkF m 11 #[.val (.int p1), .val (.int (2 : Int32))] [(.int (2 : Int32)), (.int (4 : Int32)), (.int p1)])) _
        refine XS.imul X0.here hx rfl (hb hby own_d1_11) rfl ?_
        show Steps p.tables e below (s₁.setTop (mkF m 12 #[.val (.int p1), .val (.int (2 : Int32))] [(.int (8 : Int32)), (.int p1)])) _
        refine XS.iushr X0.here hx rfl (hb hby own_d1_12) rfl ?_
        show Steps p.tables e below (s₁.setTop (mkF m 13 #[.val (.int p1), .val (.int (2 : Int32))] [(.int ((p1.toUInt32 >>> ((8 : Int32) &&& 31).toUInt32).toInt32))])) _
        refine XS.bipush X0.here hx rfl (hb hby own_d1_13) ?_
        show Steps p.tables e below (s₁.setTop (mkF m 15 #[.val (.int p1), .val (.int (2 : Int32))] [(.int (15 : Int32)), (.int ((p1.toUInt32 >>> ((8 : Int32) &&& 31).toUInt32).toInt32))])) _
        refine XS.iand X0.here hx rfl (hb hby own_d1_15) rfl ?_
        exact kt
      by_cases hc3 : (((p1.toUInt32 >>> ((8 : Int32) &&& 31).toUInt32).toInt32) &&& (15 : Int32)) = (0 : Int32)
      ·
        obtain ⟨fs, hr, hrun, hended, hW, hsame⟩ := X0.leave (v := some (.int (2 : Int32))) (fun h => by rw [Bd.returns] at h; cases h)
        refine ⟨_, _, k3 _ ?_, hrun, hended, _, _, rfl, ?_, ⟨_, rfl⟩, hW, hsame.mono (by decide) (by decide)⟩
        · show Steps p.tables e below (s₁.setTop (mkF m 16 #[.val (.int p1), .val (.int (2 : Int32))] [(.int (((p1.toUInt32 >>> ((8 : Int32) &&& 31).toUInt32).toInt32) &&& (15 : Int32)))])) _
          refine XS.ifYes X0.here hx rfl (pc0 := 16) (pc' := 25) rfl (hb hby own_d1_16) rfl ((if0 _ _).trans (teq hc3).1) (by decide) (by decide) ?_
          show Steps p.tables e below (s₁.setTop (mkF m 25 #[.val (.int p1), .val (.int (2 : Int32))] [])) _
          refine XS.iloadN X0.here hx rfl (hb hby own_d1_25) rfl ?_
          show Steps p.tables e below (s₁.setTop (mkF m 26 #[.val (.int p1), .val (.int (2 : Int32))] [(.int (2 : Int32))])) _
          exact retI X0 hx Bd.returns (hb hby own_d1_26) hr
        · show own_Q1 Z p1 h0 n0 _ s₁.heap _
          rw [e0]
          exact ⟨(by rw [own_f1, if_neg hc1, if_neg hc2, if_pos hc3]), N0, rfl⟩
      ·
        have k4 : ∀ t, Steps p.tables e below (s₁.setTop (mkF m 16 #[.val (.int p1), .val (.int (3 : Int32))] [(.int (((p1.toUInt32 >>> ((12 : Int32) &&& 31).toUInt32).toInt32) &&& (15 : Int32)))])) t → Steps p.tables e below (s₁.setTop (entryFrame m #[(.int p1)] 2)) t := by
          intro t kt
          refine k3 t ?_
          show Steps p.tables e below (s₁.setTop (mkF m 16 #[.val (.int p1), .val (.int (2 : Int32))] [(.int (((p1.toUInt32 >>> ((8 : Int32) &&& 31).toUInt32).toInt32) &&& (15 : Int32)))])) _
          refine XS.ifNo X0.here hx rfl (hb hby own_d1_16) rfl ((if0 _ _).trans (feq hc3).1) ?_
          show Steps p.tables e below (s₁.setTop (mkF m 19 #[.val (.int p1), .val (.int (2 : Int32))] [])) _
          refine XS.iinc X0.here hx rfl (hb hby own_d1_19) rfl (l' := #[.val (.int p1), .val (.int (3 : Int32))]) rfl ?_
          show Steps p.tables e below (s₁.setTop (mkF m 22 #[.val (.int p1), .val (.int (3 : Int32))] [])) _
          refine XS.goto X0.here hx rfl (pc0 := 22) (pc' := 2) rfl (hb hby own_d1_22) (by decide) (by decide) ?_
          show Steps p.tables e below (s₁.setTop (mkF m 2 #[.val (.int p1), .val (.int (3 : Int32))] [])) _
          refine XS.iloadN X0.here hx rfl (hb hby own_d1_2) rfl ?_
          show Steps p.tables e below (s₁.setTop (mkF m 3 #[.val (.int p1), .val (.int (3 : Int32))] [(.int (3 : Int32))])) _
          refine XS.bipush X0.here hx rfl (hb hby own_d1_3) ?_
          show Steps p.tables e below (s₁.setTop (mkF m 5 #[.val (.int p1), .val (.int (3 : Int32))] [(.int (8 : Int32)), (.int (3 : Int32))])) _
          refine XS.icmpNo X0.here hx rfl (hb hby own_d1_5) rfl (tlt (by decide : (3 : Int32) < (8 : Int32))).2.1 ?_
          show Steps p.tables e below (s₁.setTop (mkF m 8 #[.val (.int p1), .val (.int (3 : Int32))] [])) _
          refine XS.iloadN X0.here hx rfl (hb hby own_d1_8) rfl ?_
          show Steps p.tables e below (s₁.setTop (mkF m 9 #[.val (.int p1), .val (.int (3 : Int32))] [(.int p1)])) _
          refine XS.iconst X0.here hx rfl (hb hby own_d1_9) ?_
          show Steps p.tables e below (s₁.setTop (mkF m 10 #[.val (.int p1), .val (.int (3 : Int32))] [(.int (4 : Int32)), (.int p1)])) _
          refine XS.iloadN X0.here hx rfl (hb hby own_d1_10) rfl ?_
          show Steps p.tables e below (s₁.setTop (mkF m 11 #[.val (.int p1), .val (.int (3 : Int32))] [(.int (3 : Int32)), (.int (4 : Int32)), (.int p1)])) _
          refine XS.imul X0.here hx rfl (hb hby own_d1_11) rfl ?_
          show Steps p.tables e below (s₁.setTop (mkF m 12 #[.val (.int p1), .val (.int (3 : Int32))] [(.int (12 : Int32)), (.int p1)])) _
          refine XS.iushr X0.here hx rfl (hb hby own_d1_12) rfl ?_
          show Steps p.tables e below (s₁.setTop (mkF m 13 #[.val (.int p1), .val (.int (3 : Int32))] [(.int ((p1.toUInt32 >>> ((12 : Int32) &&& 31).toUInt32).toInt32))])) _
          refine XS.bipush X0.here hx rfl (hb hby own_d1_13) ?_
          show Steps p.tables e below (s₁.setTop (mkF m 15 #[.val (.int p1), .val (.int (3 : Int32))] [(.int (15 : Int32)), (.int ((p1.toUInt32 >>> ((12 : Int32) &&& 31).toUInt32).toInt32))])) _
          refine XS.iand X0.here hx rfl (hb hby own_d1_15) rfl ?_
          exact kt
        by_cases hc4 : (((p1.toUInt32 >>> ((12 : Int32) &&& 31).toUInt32).toInt32) &&& (15 : Int32)) = (0 : Int32)
        ·
          obtain ⟨fs, hr, hrun, hended, hW, hsame⟩ := X0.leave (v := some (.int (3 : Int32))) (fun h => by rw [Bd.returns] at h; cases h)
          refine ⟨_, _, k4 _ ?_, hrun, hended, _, _, rfl, ?_, ⟨_, rfl⟩, hW, hsame.mono (by decide) (by decide)⟩
          · show Steps p.tables e below (s₁.setTop (mkF m 16 #[.val (.int p1), .val (.int (3 : Int32))] [(.int (((p1.toUInt32 >>> ((12 : Int32) &&& 31).toUInt32).toInt32) &&& (15 : Int32)))])) _
            refine XS.ifYes X0.here hx rfl (pc0 := 16) (pc' := 25) rfl (hb hby own_d1_16) rfl ((if0 _ _).trans (teq hc4).1) (by decide) (by decide) ?_
            show Steps p.tables e below (s₁.setTop (mkF m 25 #[.val (.int p1), .val (.int (3 : Int32))] [])) _
            refine XS.iloadN X0.here hx rfl (hb hby own_d1_25) rfl ?_
            show Steps p.tables e below (s₁.setTop (mkF m 26 #[.val (.int p1), .val (.int (3 : Int32))] [(.int (3 : Int32))])) _
            exact retI X0 hx Bd.returns (hb hby own_d1_26) hr
          · show own_Q1 Z p1 h0 n0 _ s₁.heap _
            rw [e0]
            exact ⟨(by rw [own_f1, if_neg hc1, if_neg hc2, if_neg hc3, if_pos hc4]), N0, rfl⟩
        ·
          have k5 : ∀ t, Steps p.tables e below (s₁.setTop (mkF m 16 #[.val (.int p1), .val (.int (4 : Int32))] [(.int (((p1.toUInt32 >>> ((16 : Int32) &&& 31).toUInt32).toInt32) &&& (15 : Int32)))])) t → Steps p.tables e below (s₁.setTop (entryFrame m #[(.int p1)] 2)) t := by
            intro t kt
            refine k4 t ?_
            show Steps p.tables e below (s₁.setTop (mkF m 16 #[.val (.int p1), .val (.int (3 : Int32))] [(.int (((p1.toUInt32 >>> ((12 : Int32) &&& 31).toUInt32).toInt32) &&& (15 : Int32)))])) _
            refine XS.ifNo X0.here hx rfl (hb hby own_d1_16) rfl ((if0 _ _).trans (feq hc4).1) ?_
            show Steps p.tables e below (s₁.setTop (mkF m 19 #[.val (.int p1), .val (.int (3 : Int32))] [])) _
            refine XS.iinc X0.here hx rfl (hb hby own_d1_19) rfl (l' := #[.val (.int p1), .val (.int (4 : Int32))]) rfl ?_
            show Steps p.tables e below (s₁.setTop (mkF m 22 #[.val (.int p1), .val (.int (4 : Int32))] [])) _
            refine XS.goto X0.here hx rfl (pc0 := 22) (pc' := 2) rfl (hb hby own_d1_22) (by decide) (by decide) ?_
            show Steps p.tables e below (s₁.setTop (mkF m 2 #[.val (.int p1), .val (.int (4 : Int32))] [])) _
            refine XS.iloadN X0.here hx rfl (hb hby own_d1_2) rfl ?_
            show Steps p.tables e below (s₁.setTop (mkF m 3 #[.val (.int p1), .val (.int (4 : Int32))] [(.int (4 : Int32))])) _
            refine XS.bipush X0.here hx rfl (hb hby own_d1_3) ?_
            show Steps p.tables e below (s₁.setTop (mkF m 5 #[.val (.int p1), .val (.int (4 : Int32))] [(.int (8 : Int32)), (.int (4 : Int32))])) _
            refine XS.icmpNo X0.here hx rfl (hb hby own_d1_5) rfl (tlt (by decide : (4 : Int32) < (8 : Int32))).2.1 ?_
            show Steps p.tables e below (s₁.setTop (mkF m 8 #[.val (.int p1), .val (.int (4 : Int32))] [])) _
            refine XS.iloadN X0.here hx rfl (hb hby own_d1_8) rfl ?_
            show Steps p.tables e below (s₁.setTop (mkF m 9 #[.val (.int p1), .val (.int (4 : Int32))] [(.int p1)])) _
            refine XS.iconst X0.here hx rfl (hb hby own_d1_9) ?_
            show Steps p.tables e below (s₁.setTop (mkF m 10 #[.val (.int p1), .val (.int (4 : Int32))] [(.int (4 : Int32)), (.int p1)])) _
            refine XS.iloadN X0.here hx rfl (hb hby own_d1_10) rfl ?_
            show Steps p.tables e below (s₁.setTop (mkF m 11 #[.val (.int p1), .val (.int (4 : Int32))] [(.int (4 : Int32)), (.int (4 : Int32)), (.int p1)])) _
            refine XS.imul X0.here hx rfl (hb hby own_d1_11) rfl ?_
            show Steps p.tables e below (s₁.setTop (mkF m 12 #[.val (.int p1), .val (.int (4 : Int32))] [(.int (16 : Int32)), (.int p1)])) _
            refine XS.iushr X0.here hx rfl (hb hby own_d1_12) rfl ?_
            show Steps p.tables e below (s₁.setTop (mkF m 13 #[.val (.int p1), .val (.int (4 : Int32))] [(.int ((p1.toUInt32 >>> ((16 : Int32) &&& 31).toUInt32).toInt32))])) _
            refine XS.bipush X0.here hx rfl (hb hby own_d1_13) ?_
            show Steps p.tables e below (s₁.setTop (mkF m 15 #[.val (.int p1), .val (.int (4 : Int32))] [(.int (15 : Int32)), (.int ((p1.toUInt32 >>> ((16 : Int32) &&& 31).toUInt32).toInt32))])) _
            refine XS.iand X0.here hx rfl (hb hby own_d1_15) rfl ?_
            exact kt
          by_cases hc5 : (((p1.toUInt32 >>> ((16 : Int32) &&& 31).toUInt32).toInt32) &&& (15 : Int32)) = (0 : Int32)
          ·
            obtain ⟨fs, hr, hrun, hended, hW, hsame⟩ := X0.leave (v := some (.int (4 : Int32))) (fun h => by rw [Bd.returns] at h; cases h)
            refine ⟨_, _, k5 _ ?_, hrun, hended, _, _, rfl, ?_, ⟨_, rfl⟩, hW, hsame.mono (by decide) (by decide)⟩
            · show Steps p.tables e below (s₁.setTop (mkF m 16 #[.val (.int p1), .val (.int (4 : Int32))] [(.int (((p1.toUInt32 >>> ((16 : Int32) &&& 31).toUInt32).toInt32) &&& (15 : Int32)))])) _
              refine XS.ifYes X0.here hx rfl (pc0 := 16) (pc' := 25) rfl (hb hby own_d1_16) rfl ((if0 _ _).trans (teq hc5).1) (by decide) (by decide) ?_
              show Steps p.tables e below (s₁.setTop (mkF m 25 #[.val (.int p1), .val (.int (4 : Int32))] [])) _
              refine XS.iloadN X0.here hx rfl (hb hby own_d1_25) rfl ?_
              show Steps p.tables e below (s₁.setTop (mkF m 26 #[.val (.int p1), .val (.int (4 : Int32))] [(.int (4 : Int32))])) _
              exact retI X0 hx Bd.returns (hb hby own_d1_26) hr
            · show own_Q1 Z p1 h0 n0 _ s₁.heap _
              rw [e0]
              exact ⟨(by rw [own_f1, if_neg hc1, if_neg hc2, if_neg hc3, if_neg hc4, if_pos hc5]), N0, rfl⟩
          ·
            have k6 : ∀ t, Steps p.tables e below (s₁.setTop (mkF m 16 #[.val (.int p1), .val (.int (5 : Int32))] [(.int (((p1.toUInt32 >>> ((20 : Int32) &&& 31).toUInt32).toInt32) &&& (15 : Int32)))])) t → Steps p.tables e below (s₁.setTop (entryFrame m #[(.int p1)] 2)) t := by
              intro t kt
              refine k5 t ?_
              show Steps p.tables e below (s₁.setTop (mkF m 16 #[.val (.int p1), .val (.int (4 : Int32))] [(.int (((p1.toUInt32 >>> ((16 : Int32) &&& 31).toUInt32).toInt32) &&& (15 : Int32)))])) _
              refine XS.ifNo X0.here hx rfl (hb hby own_d1_16) rfl ((if0 _ _).trans (feq hc5).1) ?_
              show Steps p.tables e below (s₁.setTop (mkF m 19 #[.val (.int p1), .val (.int (4 : Int32))] [])) _
              refine XS.iinc X0.here hx rfl (hb hby own_d1_19) rfl (l' := #[.val (.int p1), .val (.int (5 : Int32))]) rfl ?_
              show Steps p.tables e below (s₁.setTop (mkF m 22 #[.val (.int p1), .val (.int (5 : Int32))] [])) _
              refine XS.goto X0.here hx rfl (pc0 := 22) (pc' := 2) rfl (hb hby own_d1_22) (by decide) (by decide) ?_
              show Steps p.tables e below (s₁.setTop (mkF m 2 #[.val (.int p1), .val (.int (5 : Int32))] [])) _
              refine XS.iloadN X0.here hx rfl (hb hby own_d1_2) rfl ?_
              show Steps p.tables e below (s₁.setTop (mkF m 3 #[.val (.int p1), .val (.int (5 : Int32))] [(.int (5 : Int32))])) _
              refine XS.bipush X0.here hx rfl (hb hby own_d1_3) ?_
              show Steps p.tables e below (s₁.setTop (mkF m 5 #[.val (.int p1), .val (.int (5 : Int32))] [(.int (8 : Int32)), (.int (5 : Int32))])) _
              refine XS.icmpNo X0.here hx rfl (hb hby own_d1_5) rfl (tlt (by decide : (5 : Int32) < (8 : Int32))).2.1 ?_
              show Steps p.tables e below (s₁.setTop (mkF m 8 #[.val (.int p1), .val (.int (5 : Int32))] [])) _
              refine XS.iloadN X0.here hx rfl (hb hby own_d1_8) rfl ?_
              show Steps p.tables e below (s₁.setTop (mkF m 9 #[.val (.int p1), .val (.int (5 : Int32))] [(.int p1)])) _
              refine XS.iconst X0.here hx rfl (hb hby own_d1_9) ?_
              show Steps p.tables e below (s₁.setTop (mkF m 10 #[.val (.int p1), .val (.int (5 : Int32))] [(.int (4 : Int32)), (.int p1)])) _
              refine XS.iloadN X0.here hx rfl (hb hby own_d1_10) rfl ?_
              show Steps p.tables e below (s₁.setTop (mkF m 11 #[.val (.int p1), .val (.int (5 : Int32))] [(.int (5 : Int32)), (.int (4 : Int32)), (.int p1)])) _
              refine XS.imul X0.here hx rfl (hb hby own_d1_11) rfl ?_
              show Steps p.tables e below (s₁.setTop (mkF m 12 #[.val (.int p1), .val (.int (5 : Int32))] [(.int (20 : Int32)), (.int p1)])) _
              refine XS.iushr X0.here hx rfl (hb hby own_d1_12) rfl ?_
              show Steps p.tables e below (s₁.setTop (mkF m 13 #[.val (.int p1), .val (.int (5 : Int32))] [(.int ((p1.toUInt32 >>> ((20 : Int32) &&& 31).toUInt32).toInt32))])) _
              refine XS.bipush X0.here hx rfl (hb hby own_d1_13) ?_
              show Steps p.tables e below (s₁.setTop (mkF m 15 #[.val (.int p1), .val (.int (5 : Int32))] [(.int (15 : Int32)), (.int ((p1.toUInt32 >>> ((20 : Int32) &&& 31).toUInt32).toInt32))])) _
              refine XS.iand X0.here hx rfl (hb hby own_d1_15) rfl ?_
              exact kt
            by_cases hc6 : (((p1.toUInt32 >>> ((20 : Int32) &&& 31).toUInt32).toInt32) &&& (15 : Int32)) = (0 : Int32)
            ·
              obtain ⟨fs, hr, hrun, hended, hW, hsame⟩ := X0.leave (v := some (.int (5 : Int32))) (fun h => by rw [Bd.returns] at h; cases h)
              refine ⟨_, _, k6 _ ?_, hrun, hended, _, _, rfl, ?_, ⟨_, rfl⟩, hW, hsame.mono (by decide) (by decide)⟩
              · show Steps p.tables e below (s₁.setTop (mkF m 16 #[.val (.int p1), .val (.int (5 : Int32))] [(.int (((p1.toUInt32 >>> ((20 : Int32) &&& 31).toUInt32).toInt32) &&& (15 : Int32)))])) _
                refine XS.ifYes X0.here hx rfl (pc0 := 16) (pc' := 25) rfl (hb hby own_d1_16) rfl ((if0 _ _).trans (teq hc6).1) (by decide) (by decide) ?_
                show Steps p.tables e below (s₁.setTop (mkF m 25 #[.val (.int p1), .val (.int (5 : Int32))] [])) _
                refine XS.iloadN X0.here hx rfl (hb hby own_d1_25) rfl ?_
                show Steps p.tables e below (s₁.setTop (mkF m 26 #[.val (.int p1), .val (.int (5 : Int32))] [(.int (5 : Int32))])) _
                exact retI X0 hx Bd.returns (hb hby own_d1_26) hr
              · show own_Q1 Z p1 h0 n0 _ s₁.heap _
                rw [e0]
                exact ⟨(by rw [own_f1, if_neg hc1, if_neg hc2, if_neg hc3, if_neg hc4, if_neg hc5, if_pos hc6]), N0, rfl⟩
            ·
              have k7 : ∀ t, Steps p.tables e below (s₁.setTop (mkF m 16 #[.val (.int p1), .val (.int (6 : Int32))] [(.int (((p1.toUInt32 >>> ((24 : Int32) &&& 31).toUInt32).toInt32) &&& (15 : Int32)))])) t → Steps p.tables e below (s₁.setTop (entryFrame m #[(.int p1)] 2)) t := by
                intro t kt
                refine k6 t ?_
                show Steps p.tables e below (s₁.setTop (mkF m 16 #[.val (.int p1), .val (.int (5 : Int32))] [(.int (((p1.toUInt32 >>> ((20 : Int32) &&& 31).toUInt32).toInt32) &&& (15 : Int32)))])) _
                refine XS.ifNo X0.here hx rfl (hb hby own_d1_16) rfl ((if0 _ _).trans (feq hc6).1) ?_
                show Steps p.tables e below (s₁.setTop (mkF m 19 #[.val (.int p1), .val (.int (5 : Int32))] [])) _
                refine XS.iinc X0.here hx rfl (hb hby own_d1_19) rfl (l' := #[.val (.int p1), .val (.int (6 : Int32))]) rfl ?_
                show Steps p.tables e below (s₁.setTop (mkF m 22 #[.val (.int p1), .val (.int (6 : Int32))] [])) _
                refine XS.goto X0.here hx rfl (pc0 := 22) (pc' := 2) rfl (hb hby own_d1_22) (by decide) (by decide) ?_
                show Steps p.tables e below (s₁.setTop (mkF m 2 #[.val (.int p1), .val (.int (6 : Int32))] [])) _
                refine XS.iloadN X0.here hx rfl (hb hby own_d1_2) rfl ?_
                show Steps p.tables e below (s₁.setTop (mkF m 3 #[.val (.int p1), .val (.int (6 : Int32))] [(.int (6 : Int32))])) _
                refine XS.bipush X0.here hx rfl (hb hby own_d1_3) ?_
                show Steps p.tables e below (s₁.setTop (mkF m 5 #[.val (.int p1), .val (.int (6 : Int32))] [(.int (8 : Int32)), (.int (6 : Int32))])) _
                refine XS.icmpNo X0.here hx rfl (hb hby own_d1_5) rfl (tlt (by decide : (6 : Int32) < (8 : Int32))).2.1 ?_
                show Steps p.tables e below (s₁.setTop (mkF m 8 #[.val (.int p1), .val (.int (6 : Int32))] [])) _
                refine XS.iloadN X0.here hx rfl (hb hby own_d1_8) rfl ?_
                show Steps p.tables e below (s₁.setTop (mkF m 9 #[.val (.int p1), .val (.int (6 : Int32))] [(.int p1)])) _
                refine XS.iconst X0.here hx rfl (hb hby own_d1_9) ?_
                show Steps p.tables e below (s₁.setTop (mkF m 10 #[.val (.int p1), .val (.int (6 : Int32))] [(.int (4 : Int32)), (.int p1)])) _
                refine XS.iloadN X0.here hx rfl (hb hby own_d1_10) rfl ?_
                show Steps p.tables e below (s₁.setTop (mkF m 11 #[.val (.int p1), .val (.int (6 : Int32))] [(.int (6 : Int32)), (.int (4 : Int32)), (.int p1)])) _
                refine XS.imul X0.here hx rfl (hb hby own_d1_11) rfl ?_
                show Steps p.tables e below (s₁.setTop (mkF m 12 #[.val (.int p1), .val (.int (6 : Int32))] [(.int (24 : Int32)), (.int p1)])) _
                refine XS.iushr X0.here hx rfl (hb hby own_d1_12) rfl ?_
                show Steps p.tables e below (s₁.setTop (mkF m 13 #[.val (.int p1), .val (.int (6 : Int32))] [(.int ((p1.toUInt32 >>> ((24 : Int32) &&& 31).toUInt32).toInt32))])) _
                refine XS.bipush X0.here hx rfl (hb hby own_d1_13) ?_
                show Steps p.tables e below (s₁.setTop (mkF m 15 #[.val (.int p1), .val (.int (6 : Int32))] [(.int (15 : Int32)), (.int ((p1.toUInt32 >>> ((24 : Int32) &&& 31).toUInt32).toInt32))])) _
                refine XS.iand X0.here hx rfl (hb hby own_d1_15) rfl ?_
                exact kt
              by_cases hc7 : (((p1.toUInt32 >>> ((24 : Int32) &&& 31).toUInt32).toInt32) &&& (15 : Int32)) = (0 : Int32)
              ·
                obtain ⟨fs, hr, hrun, hended, hW, hsame⟩ := X0.leave (v := some (.int (6 : Int32))) (fun h => by rw [Bd.returns] at h; cases h)
                refine ⟨_, _, k7 _ ?_, hrun, hended, _, _, rfl, ?_, ⟨_, rfl⟩, hW, hsame.mono (by decide) (by decide)⟩
                · show Steps p.tables e below (s₁.setTop (mkF m 16 #[.val (.int p1), .val (.int (6 : Int32))] [(.int (((p1.toUInt32 >>> ((24 : Int32) &&& 31).toUInt32).toInt32) &&& (15 : Int32)))])) _
                  refine XS.ifYes X0.here hx rfl (pc0 := 16) (pc' := 25) rfl (hb hby own_d1_16) rfl ((if0 _ _).trans (teq hc7).1) (by decide) (by decide) ?_
                  show Steps p.tables e below (s₁.setTop (mkF m 25 #[.val (.int p1), .val (.int (6 : Int32))] [])) _
                  refine XS.iloadN X0.here hx rfl (hb hby own_d1_25) rfl ?_
                  show Steps p.tables e below (s₁.setTop (mkF m 26 #[.val (.int p1), .val (.int (6 : Int32))] [(.int (6 : Int32))])) _
                  exact retI X0 hx Bd.returns (hb hby own_d1_26) hr
                · show own_Q1 Z p1 h0 n0 _ s₁.heap _
                  rw [e0]
                  exact ⟨(by rw [own_f1, if_neg hc1, if_neg hc2, if_neg hc3, if_neg hc4, if_neg hc5, if_neg hc6, if_pos hc7]), N0, rfl⟩
              ·
                have k8 : ∀ t, Steps p.tables e below (s₁.setTop (mkF m 16 #[.val (.int p1), .val (.int (7 : Int32))] [(.int (((p1.toUInt32 >>> ((28 : Int32) &&& 31).toUInt32).toInt32) &&& (15 : Int32)))])) t → Steps p.tables e below (s₁.setTop (entryFrame m #[(.int p1)] 2)) t := by
                  intro t kt
                  refine k7 t ?_
                  show Steps p.tables e below (s₁.setTop (mkF m 16 #[.val (.int p1), .val (.int (6 : Int32))] [(.int (((p1.toUInt32 >>> ((24 : Int32) &&& 31).toUInt32).toInt32) &&& (15 : Int32)))])) _
                  refine XS.ifNo X0.here hx rfl (hb hby own_d1_16) rfl ((if0 _ _).trans (feq hc7).1) ?_
                  show Steps p.tables e below (s₁.setTop (mkF m 19 #[.val (.int p1), .val (.int (6 : Int32))] [])) _
                  refine XS.iinc X0.here hx rfl (hb hby own_d1_19) rfl (l' := #[.val (.int p1), .val (.int (7 : Int32))]) rfl ?_
                  show Steps p.tables e below (s₁.setTop (mkF m 22 #[.val (.int p1), .val (.int (7 : Int32))] [])) _
                  refine XS.goto X0.here hx rfl (pc0 := 22) (pc' := 2) rfl (hb hby own_d1_22) (by decide) (by decide) ?_
                  show Steps p.tables e below (s₁.setTop (mkF m 2 #[.val (.int p1), .val (.int (7 : Int32))] [])) _
                  refine XS.iloadN X0.here hx rfl (hb hby own_d1_2) rfl ?_
                  show Steps p.tables e below (s₁.setTop (mkF m 3 #[.val (.int p1), .val (.int (7 : Int32))] [(.int (7 : Int32))])) _
                  refine XS.bipush X0.here hx rfl (hb hby own_d1_3) ?_
                  show Steps p.tables e below (s₁.setTop (mkF m 5 #[.val (.int p1), .val (.int (7 : Int32))] [(.int (8 : Int32)), (.int (7 : Int32))])) _
                  refine XS.icmpNo X0.here hx rfl (hb hby own_d1_5) rfl (tlt (by decide : (7 : Int32) < (8 : Int32))).2.1 ?_
                  show Steps p.tables e below (s₁.setTop (mkF m 8 #[.val (.int p1), .val (.int (7 : Int32))] [])) _
                  refine XS.iloadN X0.here hx rfl (hb hby own_d1_8) rfl ?_
                  show Steps p.tables e below (s₁.setTop (mkF m 9 #[.val (.int p1), .val (.int (7 : Int32))] [(.int p1)])) _
                  refine XS.iconst X0.here hx rfl (hb hby own_d1_9) ?_
                  show Steps p.tables e below (s₁.setTop (mkF m 10 #[.val (.int p1), .val (.int (7 : Int32))] [(.int (4 : Int32)), (.int p1)])) _
                  refine XS.iloadN X0.here hx rfl (hb hby own_d1_10) rfl ?_
                  show Steps p.tables e below (s₁.setTop (mkF m 11 #[.val (.int p1), .val (.int (7 : Int32))] [(.int (7 : Int32)), (.int (4 : Int32)), (.int p1)])) _
                  refine XS.imul X0.here hx rfl (hb hby own_d1_11) rfl ?_
                  show Steps p.tables e below (s₁.setTop (mkF m 12 #[.val (.int p1), .val (.int (7 : Int32))] [(.int (28 : Int32)), (.int p1)])) _
                  refine XS.iushr X0.here hx rfl (hb hby own_d1_12) rfl ?_
                  show Steps p.tables e below (s₁.setTop (mkF m 13 #[.val (.int p1), .val (.int (7 : Int32))] [(.int ((p1.toUInt32 >>> ((28 : Int32) &&& 31).toUInt32).toInt32))])) _
                  refine XS.bipush X0.here hx rfl (hb hby own_d1_13) ?_
                  show Steps p.tables e below (s₁.setTop (mkF m 15 #[.val (.int p1), .val (.int (7 : Int32))] [(.int (15 : Int32)), (.int ((p1.toUInt32 >>> ((28 : Int32) &&& 31).toUInt32).toInt32))])) _
                  refine XS.iand X0.here hx rfl (hb hby own_d1_15) rfl ?_
                  exact kt
                by_cases hc8 : (((p1.toUInt32 >>> ((28 : Int32) &&& 31).toUInt32).toInt32) &&& (15 : Int32)) = (0 : Int32)
                ·
                  obtain ⟨fs, hr, hrun, hended, hW, hsame⟩ := X0.leave (v := some (.int (7 : Int32))) (fun h => by rw [Bd.returns] at h; cases h)
                  refine ⟨_, _, k8 _ ?_, hrun, hended, _, _, rfl, ?_, ⟨_, rfl⟩, hW, hsame.mono (by decide) (by decide)⟩
                  · show Steps p.tables e below (s₁.setTop (mkF m 16 #[.val (.int p1), .val (.int (7 : Int32))] [(.int (((p1.toUInt32 >>> ((28 : Int32) &&& 31).toUInt32).toInt32) &&& (15 : Int32)))])) _
                    refine XS.ifYes X0.here hx rfl (pc0 := 16) (pc' := 25) rfl (hb hby own_d1_16) rfl ((if0 _ _).trans (teq hc8).1) (by decide) (by decide) ?_
                    show Steps p.tables e below (s₁.setTop (mkF m 25 #[.val (.int p1), .val (.int (7 : Int32))] [])) _
                    refine XS.iloadN X0.here hx rfl (hb hby own_d1_25) rfl ?_
                    show Steps p.tables e below (s₁.setTop (mkF m 26 #[.val (.int p1), .val (.int (7 : Int32))] [(.int (7 : Int32))])) _
                    exact retI X0 hx Bd.returns (hb hby own_d1_26) hr
                  · show own_Q1 Z p1 h0 n0 _ s₁.heap _
                    rw [e0]
                    exact ⟨(by rw [own_f1, if_neg hc1, if_neg hc2, if_neg hc3, if_neg hc4, if_neg hc5, if_neg hc6, if_neg hc7, if_pos hc8]), N0, rfl⟩
                ·
                  obtain ⟨fs, hr, hrun, hended, hW, hsame⟩ := X0.leave (v := some (.int (8 : Int32))) (fun h => by rw [Bd.returns] at h; cases h)
                  refine ⟨_, _, k8 _ ?_, hrun, hended, _, _, rfl, ?_, ⟨_, rfl⟩, hW, hsame.mono (by decide) (by decide)⟩
                  · show Steps p.tables e below (s₁.setTop (mkF m 16 #[.val (.int p1), .val (.int (7 : Int32))] [(.int (((p1.toUInt32 >>> ((28 : Int32) &&& 31).toUInt32).toInt32) &&& (15 : Int32)))])) _
                    refine XS.ifNo X0.here hx rfl (hb hby own_d1_16) rfl ((if0 _ _).trans (feq hc8).1) ?_
                    show Steps p.tables e below (s₁.setTop (mkF m 19 #[.val (.int p1), .val (.int (7 : Int32))] [])) _
                    refine XS.iinc X0.here hx rfl (hb hby own_d1_19) rfl (l' := #[.val (.int p1), .val (.int (8 : Int32))]) rfl ?_
                    show Steps p.tables e below (s₁.setTop (mkF m 22 #[.val (.int p1), .val (.int (8 : Int32))] [])) _
                    refine XS.goto X0.here hx rfl (pc0 := 22) (pc' := 2) rfl (hb hby own_d1_22) (by decide) (by decide) ?_
                    show Steps p.tables e below (s₁.setTop (mkF m 2 #[.val (.int p1), .val (.int (8 : Int32))] [])) _
                    refine XS.iloadN X0.here hx rfl (hb hby own_d1_2) rfl ?_
                    show Steps p.tables e below (s₁.setTop (mkF m 3 #[.val (.int p1), .val (.int (8 : Int32))] [(.int (8 : Int32))])) _
                    refine XS.bipush X0.here hx rfl (hb hby own_d1_3) ?_
                    show Steps p.tables e below (s₁.setTop (mkF m 5 #[.val (.int p1), .val (.int (8 : Int32))] [(.int (8 : Int32)), (.int (8 : Int32))])) _
                    refine XS.icmpYes X0.here hx rfl (pc0 := 5) (pc' := 25) rfl (hb hby own_d1_5) rfl (flt (by decide : ¬ ((8 : Int32) < (8 : Int32)))).2.1 (by decide) (by decide) ?_
                    show Steps p.tables e below (s₁.setTop (mkF m 25 #[.val (.int p1), .val (.int (8 : Int32))] [])) _
                    refine XS.iloadN X0.here hx rfl (hb hby own_d1_25) rfl ?_
                    show Steps p.tables e below (s₁.setTop (mkF m 26 #[.val (.int p1), .val (.int (8 : Int32))] [(.int (8 : Int32))])) _
                    exact retI X0 hx Bd.returns (hb hby own_d1_26) hr
                  · show own_Q1 Z p1 h0 n0 _ s₁.heap _
                    rw [e0]
                    exact ⟨(by rw [own_f1, if_neg hc1, if_neg hc2, if_neg hc3, if_neg hc4, if_neg hc5, if_neg hc6, if_neg hc7, if_neg hc8]), N0, rfl⟩
-- body 2
theorem own_d2_0 : decode method_2_code 0 = .ok (.iload_n 0, 1) := by decide +kernel
theorem own_d2_1 : decode method_2_code 1 = .ok (.bipush 15, 2) := by decide +kernel
theorem own_d2_3 : decode method_2_code 3 = .ok (.iand, 1) := by decide +kernel
theorem own_d2_4 : decode method_2_code 4 = .ok (.ifCond .ne 5, 3) := by decide +kernel
theorem own_d2_7 : decode method_2_code 7 = .ok (.iconst 0, 1) := by decide +kernel
theorem own_d2_8 : decode method_2_code 8 = .ok (.ireturn, 1) := by decide +kernel
theorem own_d2_9 : decode method_2_code 9 = .ok (.iload_n 0, 1) := by decide +kernel
theorem own_d2_10 : decode method_2_code 10 = .ok (.sipush 240, 3) := by decide +kernel
theorem own_d2_13 : decode method_2_code 13 = .ok (.iand, 1) := by decide +kernel
theorem own_d2_14 : decode method_2_code 14 = .ok (.ifCond .ne 5, 3) := by decide +kernel
theorem own_d2_17 : decode method_2_code 17 = .ok (.iconst 1, 1) := by decide +kernel
theorem own_d2_18 : decode method_2_code 18 = .ok (.ireturn, 1) := by decide +kernel
theorem own_d2_19 : decode method_2_code 19 = .ok (.iload_n 0, 1) := by decide +kernel
theorem own_d2_20 : decode method_2_code 20 = .ok (.sipush 3840, 3) := by decide +kernel
theorem own_d2_23 : decode method_2_code 23 = .ok (.iand, 1) := by decide +kernel
theorem own_d2_24 : decode method_2_code 24 = .ok (.ifCond .ne 5, 3) := by decide +kernel
theorem own_d2_27 : decode method_2_code 27 = .ok (.iconst 2, 1) := by decide +kernel
theorem own_d2_28 : decode method_2_code 28 = .ok (.ireturn, 1) := by decide +kernel
theorem own_d2_29 : decode method_2_code 29 = .ok (.iload_n 0, 1) := by decide +kernel
theorem own_d2_30 : decode method_2_code 30 = .ok (.ldc 7, 2) := by decide +kernel
theorem own_d2_32 : decode method_2_code 32 = .ok (.iand, 1) := by decide +kernel
theorem own_d2_33 : decode method_2_code 33 = .ok (.ifCond .ne 5, 3) := by decide +kernel
theorem own_d2_36 : decode method_2_code 36 = .ok (.iconst 3, 1) := by decide +kernel
theorem own_d2_37 : decode method_2_code 37 = .ok (.ireturn, 1) := by decide +kernel
theorem own_d2_38 : decode method_2_code 38 = .ok (.iload_n 0, 1) := by decide +kernel
theorem own_d2_39 : decode method_2_code 39 = .ok (.ldc 8, 2) := by decide +kernel
theorem own_d2_41 : decode method_2_code 41 = .ok (.iand, 1) := by decide +kernel
theorem own_d2_42 : decode method_2_code 42 = .ok (.ifCond .ne 5, 3) := by decide +kernel
theorem own_d2_45 : decode method_2_code 45 = .ok (.iconst 4, 1) := by decide +kernel
theorem own_d2_46 : decode method_2_code 46 = .ok (.ireturn, 1) := by decide +kernel
theorem own_d2_47 : decode method_2_code 47 = .ok (.iload_n 0, 1) := by decide +kernel
theorem own_d2_48 : decode method_2_code 48 = .ok (.ldc 9, 2) := by decide +kernel
theorem own_d2_50 : decode method_2_code 50 = .ok (.iand, 1) := by decide +kernel
theorem own_d2_51 : decode method_2_code 51 = .ok (.ifCond .ne 5, 3) := by decide +kernel
theorem own_d2_54 : decode method_2_code 54 = .ok (.iconst 5, 1) := by decide +kernel
theorem own_d2_55 : decode method_2_code 55 = .ok (.ireturn, 1) := by decide +kernel
theorem own_d2_56 : decode method_2_code 56 = .ok (.iload_n 0, 1) := by decide +kernel
theorem own_d2_57 : decode method_2_code 57 = .ok (.ldc 10, 2) := by decide +kernel
theorem own_d2_59 : decode method_2_code 59 = .ok (.iand, 1) := by decide +kernel
theorem own_d2_60 : decode method_2_code 60 = .ok (.ifCond .ne 6, 3) := by decide +kernel
theorem own_d2_63 : decode method_2_code 63 = .ok (.bipush 6, 2) := by decide +kernel
theorem own_d2_65 : decode method_2_code 65 = .ok (.ireturn, 1) := by decide +kernel
theorem own_d2_66 : decode method_2_code 66 = .ok (.iload_n 0, 1) := by decide +kernel
theorem own_d2_67 : decode method_2_code 67 = .ok (.ldc 11, 2) := by decide +kernel
theorem own_d2_69 : decode method_2_code 69 = .ok (.iand, 1) := by decide +kernel
theorem own_d2_70 : decode method_2_code 70 = .ok (.ifCond .ne 6, 3) := by decide +kernel
theorem own_d2_73 : decode method_2_code 73 = .ok (.bipush 7, 2) := by decide +kernel
theorem own_d2_75 : decode method_2_code 75 = .ok (.ireturn, 1) := by decide +kernel
theorem own_d2_76 : decode method_2_code 76 = .ok (.bipush 8, 2) := by decide +kernel
theorem own_d2_78 : decode method_2_code 78 = .ok (.ireturn, 1) := by decide +kernel
theorem own_ef2 (m : MethodId) (x0 : Int32) : entryFrame m #[(.int x0)] 1 = mkF m 0 #[.val (.int x0)] [] := by first | (simp [entryFrame, mkF, argsToLocals, Value.category]; done) | rfl
def own_f2 (p1 : Int32) : Int32 := if (p1 &&& (15 : Int32)) = (0 : Int32) then (0 : Int32)
    else if (p1 &&& (240 : Int32)) = (0 : Int32) then (1 : Int32)
      else if (p1 &&& (3840 : Int32)) = (0 : Int32) then (2 : Int32)
        else if (p1 &&& (61440 : Int32)) = (0 : Int32) then (3 : Int32)
          else if (p1 &&& (983040 : Int32)) = (0 : Int32) then (4 : Int32)
            else if (p1 &&& (15728640 : Int32)) = (0 : Int32) then (5 : Int32)
              else if (p1 &&& (251658240 : Int32)) = (0 : Int32) then (6 : Int32)
                else if (p1 &&& (-268435456 : Int32)) = (0 : Int32) then (7 : Int32)
                  else (8 : Int32)
def own_Q2 (Z : State) (p1 : Int32) (h0 : Heap) (n0 : Nat) (v : Option Value) (h : Heap) (L : List Loc) : Prop := v = some (.int (own_f2 p1)) ∧ Fr n0 L ∧ h = h0
set_option maxRecDepth 65536 in
set_option maxHeartbeats 40000000 in
theorem own_rm2 (l : Launch) (Z : State) (a0 : Array Value) (hw : ∀ d ∈ tables_1, d.before a0 Z = true) (ws : List Jvm.Cond) (p1 : Int32) (h0 : Heap) (n0 : Nat) (Z0 : n0 ≤ h0.size) :
    MetFree l (⟨"com/example/kerb/kerb/txn/SoleLocksLengthPinLaw", "ref", "(I)I"⟩ : MethodName) (head1 (Jvm.Cond.code (⟨"com/example/kerb/kerb/txn/SoleLocksLengthPinLaw", "ref", "(I)I"⟩ : MethodName) method_2_code 1 (some .int) :: ws) ({ frames := 0, cells := 0, slots := 0, locals := 0 } : Room)) (fun a U => a = #[(.int p1)] ∧ Z.Warmed39 U.vm ∧ U.heap = h0) (fun _ _ _ _ _ => True) (fun _ U o U' => ∃ v L, o = .returned v ∧ own_Q2 Z p1 h0 n0 v U'.heap L ∧ FrameEnd U o U' L ({ frames := 0, cells := 0, slots := 0, locals := 0 } : Room).cells ({ frames := 0, cells := 0, slots := 0, locals := 0 } : Room).slots) := by
  refine MetFree.of_bodySF (plainFor_of_name own_pn18) hisR ?_
  intro p e s m args below meth c s₁ Bd hml0 hP hK
  obtain ⟨rfl, hZ, hh⟩ := hP
  have hx := Bd.exec
  have hby := Bd.bytes
  have hml : c.maxLocals = 1 := hml0
  have hown : s.vm.findClass "com/example/kerb/kerb/txn/SoleLocksLengthPinLaw" = some m.cls := findClass_of_methodNamed Bd.named
  have hnm := (name_of_methodNamed Bd.named Bd.method).1
  have X0 : Stand p l e ({ frames := 0, cells := 0, slots := 0, locals := 0 } : Room) s m #[(.int p1)] below meth c s₁ [] 0 0 := Stand.of_body Bd
  have e0 : s₁.heap = h0 := by rw [← hh, Bd.state]; rfl
  have N0 := Fr.nil n0
  have pre0 : ∀ t, Steps p.tables e below (s₁.setTop (mkF m 0 #[.val (.int p1)] [])) t → Steps p.tables e below (s₁.setTop (entryFrame m #[(.int p1)] 1)) t := fun t k => castTop (own_ef2 m p1) k
  have k1 : ∀ t, Steps p.tables e below (s₁.setTop (mkF m 4 #[.val (.int p1)] [(.int (p1 &&& (15 : Int32)))])) t → Steps p.tables e below (s₁.setTop (entryFrame m #[(.int p1)] 1)) t := by
    intro t kt
    refine pre0 t ?_
    show Steps p.tables e below (s₁.setTop (mkF m 0 #[.val (.int p1)] [])) _
    refine XS.iloadN X0.here hx rfl (hb hby own_d2_0) rfl ?_
    show Steps p.tables e below (s₁.setTop (mkF m 1 #[.val (.int p1)] [(.int p1)])) _
    refine XS.bipush X0.here hx rfl (hb hby own_d2_1) ?_
    show Steps p.tables e below (s₁.setTop (mkF m 3 #[.val (.int p1)] [(.int (15 : Int32)), (.int p1)])) _
    refine XS.iand X0.here hx rfl (hb hby own_d2_3) rfl ?_
    exact kt
  by_cases hc1 : (p1 &&& (15 : Int32)) = (0 : Int32)
  ·
    obtain ⟨fs, hr, hrun, hended, hW, hsame⟩ := X0.leave (v := some (.int (0 : Int32))) (fun h => by rw [Bd.returns] at h; cases h)
    refine ⟨_, _, k1 _ ?_, hrun, hended, _, _, rfl, ?_, ⟨_, rfl⟩, hW, hsame.mono (by decide) (by decide)⟩
    · show Steps p.tables e below (s₁.setTop (mkF m 4 #[.val (.int p1)] [(.int (p1 &&& (15 : Int32)))])) _
      refine XS.ifNo X0.here hx rfl (hb hby own_d2_4) rfl ((if0 _ _).trans (teq hc1).2) ?_
      show Steps p.tables e below (s₁.setTop (mkF m 7 #[.val (.int p1)] [])) _
      refine XS.iconst X0.here hx rfl (hb hby own_d2_7) ?_
      show Steps p.tables e below (s₁.setTop (mkF m 8 #[.val (.int p1)] [(.int (0 : Int32))])) _
      exact retI X0 hx Bd.returns (hb hby own_d2_8) hr
    · show own_Q2 Z p1 h0 n0 _ s₁.heap _
      rw [e0]
      exact ⟨(by rw [own_f2, if_pos hc1]), N0, rfl⟩
  ·
    have k2 : ∀ t, Steps p.tables e below (s₁.setTop (mkF m 14 #[.val (.int p1)] [(.int (p1 &&& (240 : Int32)))])) t → Steps p.tables e below (s₁.setTop (entryFrame m #[(.int p1)] 1)) t := by
      intro t kt
      refine k1 t ?_
      show Steps p.tables e below (s₁.setTop (mkF m 4 #[.val (.int p1)] [(.int (p1 &&& (15 : Int32)))])) _
      refine XS.ifYes X0.here hx rfl (pc0 := 4) (pc' := 9) rfl (hb hby own_d2_4) rfl ((if0 _ _).trans (feq hc1).2) (by decide) (by decide) ?_
      show Steps p.tables e below (s₁.setTop (mkF m 9 #[.val (.int p1)] [])) _
      refine XS.iloadN X0.here hx rfl (hb hby own_d2_9) rfl ?_
      show Steps p.tables e below (s₁.setTop (mkF m 10 #[.val (.int p1)] [(.int p1)])) _
      refine XS.sipush X0.here hx rfl (hb hby own_d2_10) ?_
      show Steps p.tables e below (s₁.setTop (mkF m 13 #[.val (.int p1)] [(.int (240 : Int32)), (.int p1)])) _
      refine XS.iand X0.here hx rfl (hb hby own_d2_13) rfl ?_
      exact kt
    by_cases hc2 : (p1 &&& (240 : Int32)) = (0 : Int32)
    ·
      obtain ⟨fs, hr, hrun, hended, hW, hsame⟩ := X0.leave (v := some (.int (1 : Int32))) (fun h => by rw [Bd.returns] at h; cases h)
      refine ⟨_, _, k2 _ ?_, hrun, hended, _, _, rfl, ?_, ⟨_, rfl⟩, hW, hsame.mono (by decide) (by decide)⟩
      · show Steps p.tables e below (s₁.setTop (mkF m 14 #[.val (.int p1)] [(.int (p1 &&& (240 : Int32)))])) _
        refine XS.ifNo X0.here hx rfl (hb hby own_d2_14) rfl ((if0 _ _).trans (teq hc2).2) ?_
        show Steps p.tables e below (s₁.setTop (mkF m 17 #[.val (.int p1)] [])) _
        refine XS.iconst X0.here hx rfl (hb hby own_d2_17) ?_
        show Steps p.tables e below (s₁.setTop (mkF m 18 #[.val (.int p1)] [(.int (1 : Int32))])) _
        exact retI X0 hx Bd.returns (hb hby own_d2_18) hr
      · show own_Q2 Z p1 h0 n0 _ s₁.heap _
        rw [e0]
        exact ⟨(by rw [own_f2, if_neg hc1, if_pos hc2]), N0, rfl⟩
    ·
      have k3 : ∀ t, Steps p.tables e below (s₁.setTop (mkF m 24 #[.val (.int p1)] [(.int (p1 &&& (3840 : Int32)))])) t → Steps p.tables e below (s₁.setTop (entryFrame m #[(.int p1)] 1)) t := by
        intro t kt
        refine k2 t ?_
        show Steps p.tables e below (s₁.setTop (mkF m 14 #[.val (.int p1)] [(.int (p1 &&& (240 : Int32)))])) _
        refine XS.ifYes X0.here hx rfl (pc0 := 14) (pc' := 19) rfl (hb hby own_d2_14) rfl ((if0 _ _).trans (feq hc2).2) (by decide) (by decide) ?_
        show Steps p.tables e below (s₁.setTop (mkF m 19 #[.val (.int p1)] [])) _
        refine XS.iloadN X0.here hx rfl (hb hby own_d2_19) rfl ?_
        show Steps p.tables e below (s₁.setTop (mkF m 20 #[.val (.int p1)] [(.int p1)])) _
        refine XS.sipush X0.here hx rfl (hb hby own_d2_20) ?_
        show Steps p.tables e below (s₁.setTop (mkF m 23 #[.val (.int p1)] [(.int (3840 : Int32)), (.int p1)])) _
        refine XS.iand X0.here hx rfl (hb hby own_d2_23) rfl ?_
        exact kt
      by_cases hc3 : (p1 &&& (3840 : Int32)) = (0 : Int32)
      ·
        obtain ⟨fs, hr, hrun, hended, hW, hsame⟩ := X0.leave (v := some (.int (2 : Int32))) (fun h => by rw [Bd.returns] at h; cases h)
        refine ⟨_, _, k3 _ ?_, hrun, hended, _, _, rfl, ?_, ⟨_, rfl⟩, hW, hsame.mono (by decide) (by decide)⟩
        · show Steps p.tables e below (s₁.setTop (mkF m 24 #[.val (.int p1)] [(.int (p1 &&& (3840 : Int32)))])) _
          refine XS.ifNo X0.here hx rfl (hb hby own_d2_24) rfl ((if0 _ _).trans (teq hc3).2) ?_
          show Steps p.tables e below (s₁.setTop (mkF m 27 #[.val (.int p1)] [])) _
          refine XS.iconst X0.here hx rfl (hb hby own_d2_27) ?_
          show Steps p.tables e below (s₁.setTop (mkF m 28 #[.val (.int p1)] [(.int (2 : Int32))])) _
          exact retI X0 hx Bd.returns (hb hby own_d2_28) hr
        · show own_Q2 Z p1 h0 n0 _ s₁.heap _
          rw [e0]
          exact ⟨(by rw [own_f2, if_neg hc1, if_neg hc2, if_pos hc3]), N0, rfl⟩
      ·
        have k4 : ∀ t, Steps p.tables e below (s₁.setTop (mkF m 33 #[.val (.int p1)] [(.int (p1 &&& (61440 : Int32)))])) t → Steps p.tables e below (s₁.setTop (entryFrame m #[(.int p1)] 1)) t := by
          intro t kt
          refine k3 t ?_
          show Steps p.tables e below (s₁.setTop (mkF m 24 #[.val (.int p1)] [(.int (p1 &&& (3840 : Int32)))])) _
          refine XS.ifYes X0.here hx rfl (pc0 := 24) (pc' := 29) rfl (hb hby own_d2_24) rfl ((if0 _ _).trans (feq hc3).2) (by decide) (by decide) ?_
          show Steps p.tables e below (s₁.setTop (mkF m 29 #[.val (.int p1)] [])) _
          refine XS.iloadN X0.here hx rfl (hb hby own_d2_29) rfl ?_
          show Steps p.tables e below (s₁.setTop (mkF m 30 #[.val (.int p1)] [(.int p1)])) _
          refine X0.ldcInt hx hown (mvT hZ (hw _ (List.mem_of_getElem? (i := 10) rfl))) (g := (mkF m 30 #[.val (.int p1)] [(.int p1)])) rfl (hb hby own_d2_30) _ ?_
          show Steps p.tables e below (s₁.setTop (mkF m 32 #[.val (.int p1)] [(.int (61440 : Int32)), (.int p1)])) _
          refine XS.iand X0.here hx rfl (hb hby own_d2_32) rfl ?_
          exact kt
        by_cases hc4 : (p1 &&& (61440 : Int32)) = (0 : Int32)
        ·
          obtain ⟨fs, hr, hrun, hended, hW, hsame⟩ := X0.leave (v := some (.int (3 : Int32))) (fun h => by rw [Bd.returns] at h; cases h)
          refine ⟨_, _, k4 _ ?_, hrun, hended, _, _, rfl, ?_, ⟨_, rfl⟩, hW, hsame.mono (by decide) (by decide)⟩
          · show Steps p.tables e below (s₁.setTop (mkF m 33 #[.val (.int p1)] [(.int (p1 &&& (61440 : Int32)))])) _
            refine XS.ifNo X0.here hx rfl (hb hby own_d2_33) rfl ((if0 _ _).trans (teq hc4).2) ?_
            show Steps p.tables e below (s₁.setTop (mkF m 36 #[.val (.int p1)] [])) _
            refine XS.iconst X0.here hx rfl (hb hby own_d2_36) ?_
            show Steps p.tables e below (s₁.setTop (mkF m 37 #[.val (.int p1)] [(.int (3 : Int32))])) _
            exact retI X0 hx Bd.returns (hb hby own_d2_37) hr
          · show own_Q2 Z p1 h0 n0 _ s₁.heap _
            rw [e0]
            exact ⟨(by rw [own_f2, if_neg hc1, if_neg hc2, if_neg hc3, if_pos hc4]), N0, rfl⟩
        ·
          have k5 : ∀ t, Steps p.tables e below (s₁.setTop (mkF m 42 #[.val (.int p1)] [(.int (p1 &&& (983040 : Int32)))])) t → Steps p.tables e below (s₁.setTop (entryFrame m #[(.int p1)] 1)) t := by
            intro t kt
            refine k4 t ?_
            show Steps p.tables e below (s₁.setTop (mkF m 33 #[.val (.int p1)] [(.int (p1 &&& (61440 : Int32)))])) _
            refine XS.ifYes X0.here hx rfl (pc0 := 33) (pc' := 38) rfl (hb hby own_d2_33) rfl ((if0 _ _).trans (feq hc4).2) (by decide) (by decide) ?_
            show Steps p.tables e below (s₁.setTop (mkF m 38 #[.val (.int p1)] [])) _
            refine XS.iloadN X0.here hx rfl (hb hby own_d2_38) rfl ?_
            show Steps p.tables e below (s₁.setTop (mkF m 39 #[.val (.int p1)] [(.int p1)])) _
            refine X0.ldcInt hx hown (mvT hZ (hw _ (List.mem_of_getElem? (i := 11) rfl))) (g := (mkF m 39 #[.val (.int p1)] [(.int p1)])) rfl (hb hby own_d2_39) _ ?_
            show Steps p.tables e below (s₁.setTop (mkF m 41 #[.val (.int p1)] [(.int (983040 : Int32)), (.int p1)])) _
            refine XS.iand X0.here hx rfl (hb hby own_d2_41) rfl ?_
            exact kt
          by_cases hc5 : (p1 &&& (983040 : Int32)) = (0 : Int32)
          ·
            obtain ⟨fs, hr, hrun, hended, hW, hsame⟩ := X0.leave (v := some (.int (4 : Int32))) (fun h => by rw [Bd.returns] at h; cases h)
            refine ⟨_, _, k5 _ ?_, hrun, hended, _, _, rfl, ?_, ⟨_, rfl⟩, hW, hsame.mono (by decide) (by decide)⟩
            · show Steps p.tables e below (s₁.setTop (mkF m 42 #[.val (.int p1)] [(.int (p1 &&& (983040 : Int32)))])) _
              refine XS.ifNo X0.here hx rfl (hb hby own_d2_42) rfl ((if0 _ _).trans (teq hc5).2) ?_
              show Steps p.tables e below (s₁.setTop (mkF m 45 #[.val (.int p1)] [])) _
              refine XS.iconst X0.here hx rfl (hb hby own_d2_45) ?_
              show Steps p.tables e below (s₁.setTop (mkF m 46 #[.val (.int p1)] [(.int (4 : Int32))])) _
              exact retI X0 hx Bd.returns (hb hby own_d2_46) hr
            · show own_Q2 Z p1 h0 n0 _ s₁.heap _
              rw [e0]
              exact ⟨(by rw [own_f2, if_neg hc1, if_neg hc2, if_neg hc3, if_neg hc4, if_pos hc5]), N0, rfl⟩
          ·
            have k6 : ∀ t, Steps p.tables e below (s₁.setTop (mkF m 51 #[.val (.int p1)] [(.int (p1 &&& (15728640 : Int32)))])) t → Steps p.tables e below (s₁.setTop (entryFrame m #[(.int p1)] 1)) t := by
              intro t kt
              refine k5 t ?_
              show Steps p.tables e below (s₁.setTop (mkF m 42 #[.val (.int p1)] [(.int (p1 &&& (983040 : Int32)))])) _
              refine XS.ifYes X0.here hx rfl (pc0 := 42) (pc' := 47) rfl (hb hby own_d2_42) rfl ((if0 _ _).trans (feq hc5).2) (by decide) (by decide) ?_
              show Steps p.tables e below (s₁.setTop (mkF m 47 #[.val (.int p1)] [])) _
              refine XS.iloadN X0.here hx rfl (hb hby own_d2_47) rfl ?_
              show Steps p.tables e below (s₁.setTop (mkF m 48 #[.val (.int p1)] [(.int p1)])) _
              refine X0.ldcInt hx hown (mvT hZ (hw _ (List.mem_of_getElem? (i := 12) rfl))) (g := (mkF m 48 #[.val (.int p1)] [(.int p1)])) rfl (hb hby own_d2_48) _ ?_
              show Steps p.tables e below (s₁.setTop (mkF m 50 #[.val (.int p1)] [(.int (15728640 : Int32)), (.int p1)])) _
              refine XS.iand X0.here hx rfl (hb hby own_d2_50) rfl ?_
              exact kt
            by_cases hc6 : (p1 &&& (15728640 : Int32)) = (0 : Int32)
            ·
              obtain ⟨fs, hr, hrun, hended, hW, hsame⟩ := X0.leave (v := some (.int (5 : Int32))) (fun h => by rw [Bd.returns] at h; cases h)
              refine ⟨_, _, k6 _ ?_, hrun, hended, _, _, rfl, ?_, ⟨_, rfl⟩, hW, hsame.mono (by decide) (by decide)⟩
              · show Steps p.tables e below (s₁.setTop (mkF m 51 #[.val (.int p1)] [(.int (p1 &&& (15728640 : Int32)))])) _
                refine XS.ifNo X0.here hx rfl (hb hby own_d2_51) rfl ((if0 _ _).trans (teq hc6).2) ?_
                show Steps p.tables e below (s₁.setTop (mkF m 54 #[.val (.int p1)] [])) _
                refine XS.iconst X0.here hx rfl (hb hby own_d2_54) ?_
                show Steps p.tables e below (s₁.setTop (mkF m 55 #[.val (.int p1)] [(.int (5 : Int32))])) _
                exact retI X0 hx Bd.returns (hb hby own_d2_55) hr
              · show own_Q2 Z p1 h0 n0 _ s₁.heap _
                rw [e0]
                exact ⟨(by rw [own_f2, if_neg hc1, if_neg hc2, if_neg hc3, if_neg hc4, if_neg hc5, if_pos hc6]), N0, rfl⟩
            ·
              have k7 : ∀ t, Steps p.tables e below (s₁.setTop (mkF m 60 #[.val (.int p1)] [(.int (p1 &&& (251658240 : Int32)))])) t → Steps p.tables e below (s₁.setTop (entryFrame m #[(.int p1)] 1)) t := by
                intro t kt
                refine k6 t ?_
                show Steps p.tables e below (s₁.setTop (mkF m 51 #[.val (.int p1)] [(.int (p1 &&& (15728640 : Int32)))])) _
                refine XS.ifYes X0.here hx rfl (pc0 := 51) (pc' := 56) rfl (hb hby own_d2_51) rfl ((if0 _ _).trans (feq hc6).2) (by decide) (by decide) ?_
                show Steps p.tables e below (s₁.setTop (mkF m 56 #[.val (.int p1)] [])) _
                refine XS.iloadN X0.here hx rfl (hb hby own_d2_56) rfl ?_
                show Steps p.tables e below (s₁.setTop (mkF m 57 #[.val (.int p1)] [(.int p1)])) _
                refine X0.ldcInt hx hown (mvT hZ (hw _ (List.mem_of_getElem? (i := 13) rfl))) (g := (mkF m 57 #[.val (.int p1)] [(.int p1)])) rfl (hb hby own_d2_57) _ ?_
                show Steps p.tables e below (s₁.setTop (mkF m 59 #[.val (.int p1)] [(.int (251658240 : Int32)), (.int p1)])) _
                refine XS.iand X0.here hx rfl (hb hby own_d2_59) rfl ?_
                exact kt
              by_cases hc7 : (p1 &&& (251658240 : Int32)) = (0 : Int32)
              ·
                obtain ⟨fs, hr, hrun, hended, hW, hsame⟩ := X0.leave (v := some (.int (6 : Int32))) (fun h => by rw [Bd.returns] at h; cases h)
                refine ⟨_, _, k7 _ ?_, hrun, hended, _, _, rfl, ?_, ⟨_, rfl⟩, hW, hsame.mono (by decide) (by decide)⟩
                · show Steps p.tables e below (s₁.setTop (mkF m 60 #[.val (.int p1)] [(.int (p1 &&& (251658240 : Int32)))])) _
                  refine XS.ifNo X0.here hx rfl (hb hby own_d2_60) rfl ((if0 _ _).trans (teq hc7).2) ?_
                  show Steps p.tables e below (s₁.setTop (mkF m 63 #[.val (.int p1)] [])) _
                  refine XS.bipush X0.here hx rfl (hb hby own_d2_63) ?_
                  show Steps p.tables e below (s₁.setTop (mkF m 65 #[.val (.int p1)] [(.int (6 : Int32))])) _
                  exact retI X0 hx Bd.returns (hb hby own_d2_65) hr
                · show own_Q2 Z p1 h0 n0 _ s₁.heap _
                  rw [e0]
                  exact ⟨(by rw [own_f2, if_neg hc1, if_neg hc2, if_neg hc3, if_neg hc4, if_neg hc5, if_neg hc6, if_pos hc7]), N0, rfl⟩
              ·
                have k8 : ∀ t, Steps p.tables e below (s₁.setTop (mkF m 70 #[.val (.int p1)] [(.int (p1 &&& (-268435456 : Int32)))])) t → Steps p.tables e below (s₁.setTop (entryFrame m #[(.int p1)] 1)) t := by
                  intro t kt
                  refine k7 t ?_
                  show Steps p.tables e below (s₁.setTop (mkF m 60 #[.val (.int p1)] [(.int (p1 &&& (251658240 : Int32)))])) _
                  refine XS.ifYes X0.here hx rfl (pc0 := 60) (pc' := 66) rfl (hb hby own_d2_60) rfl ((if0 _ _).trans (feq hc7).2) (by decide) (by decide) ?_
                  show Steps p.tables e below (s₁.setTop (mkF m 66 #[.val (.int p1)] [])) _
                  refine XS.iloadN X0.here hx rfl (hb hby own_d2_66) rfl ?_
                  show Steps p.tables e below (s₁.setTop (mkF m 67 #[.val (.int p1)] [(.int p1)])) _
                  refine X0.ldcInt hx hown (mvT hZ (hw _ (List.mem_of_getElem? (i := 14) rfl))) (g := (mkF m 67 #[.val (.int p1)] [(.int p1)])) rfl (hb hby own_d2_67) _ ?_
                  show Steps p.tables e below (s₁.setTop (mkF m 69 #[.val (.int p1)] [(.int (-268435456 : Int32)), (.int p1)])) _
                  refine XS.iand X0.here hx rfl (hb hby own_d2_69) rfl ?_
                  exact kt
                by_cases hc8 : (p1 &&& (-268435456 : Int32)) = (0 : Int32)
                ·
                  obtain ⟨fs, hr, hrun, hended, hW, hsame⟩ := X0.leave (v := some (.int (7 : Int32))) (fun h => by rw [Bd.returns] at h; cases h)
                  refine ⟨_, _, k8 _ ?_, hrun, hended, _, _, rfl, ?_, ⟨_, rfl⟩, hW, hsame.mono (by decide) (by decide)⟩
                  · show Steps p.tables e below (s₁.setTop (mkF m 70 #[.val (.int p1)] [(.int (p1 &&& (-268435456 : Int32)))])) _
                    refine XS.ifNo X0.here hx rfl (hb hby own_d2_70) rfl ((if0 _ _).trans (teq hc8).2) ?_
                    show Steps p.tables e below (s₁.setTop (mkF m 73 #[.val (.int p1)] [])) _
                    refine XS.bipush X0.here hx rfl (hb hby own_d2_73) ?_
                    show Steps p.tables e below (s₁.setTop (mkF m 75 #[.val (.int p1)] [(.int (7 : Int32))])) _
                    exact retI X0 hx Bd.returns (hb hby own_d2_75) hr
                  · show own_Q2 Z p1 h0 n0 _ s₁.heap _
                    rw [e0]
                    exact ⟨(by rw [own_f2, if_neg hc1, if_neg hc2, if_neg hc3, if_neg hc4, if_neg hc5, if_neg hc6, if_neg hc7, if_pos hc8]), N0, rfl⟩
                ·
                  obtain ⟨fs, hr, hrun, hended, hW, hsame⟩ := X0.leave (v := some (.int (8 : Int32))) (fun h => by rw [Bd.returns] at h; cases h)
                  refine ⟨_, _, k8 _ ?_, hrun, hended, _, _, rfl, ?_, ⟨_, rfl⟩, hW, hsame.mono (by decide) (by decide)⟩
                  · show Steps p.tables e below (s₁.setTop (mkF m 70 #[.val (.int p1)] [(.int (p1 &&& (-268435456 : Int32)))])) _
                    refine XS.ifYes X0.here hx rfl (pc0 := 70) (pc' := 76) rfl (hb hby own_d2_70) rfl ((if0 _ _).trans (feq hc8).2) (by decide) (by decide) ?_
                    show Steps p.tables e below (s₁.setTop (mkF m 76 #[.val (.int p1)] [])) _
                    refine XS.bipush X0.here hx rfl (hb hby own_d2_76) ?_
                    show Steps p.tables e below (s₁.setTop (mkF m 78 #[.val (.int p1)] [(.int (8 : Int32))])) _
                    exact retI X0 hx Bd.returns (hb hby own_d2_78) hr
                  · show own_Q2 Z p1 h0 n0 _ s₁.heap _
                    rw [e0]
                    exact ⟨(by rw [own_f2, if_neg hc1, if_neg hc2, if_neg hc3, if_neg hc4, if_neg hc5, if_neg hc6, if_neg hc7, if_neg hc8]), N0, rfl⟩
-- body 0
theorem own_ef0 (m : MethodId) (x0 : Int32) (x1 : Int32) : entryFrame m #[(.int x0), (.int x1)] maxLocals = mkF m 0 #[.val (.int x0), .val (.int x1), .unset, .unset, .unset, .unset, .unset, .unset] [] := by first | (simp [entryFrame, mkF, argsToLocals, Value.category, maxLocals]; done) | rfl
def own_f0 (p1 : Int32) (p2 : Int32) : Int32 := if ((p2 &&& (2147483647 : Int32)) - ((p2 &&& (2147483647 : Int32)) / (9 : Int32)) * (9 : Int32)) = (0 : Int32) then (if (own_f1 p1) = (own_f2 p1) then (if (own_f1 ((p1 ||| ((286331153 : Int32) &&& (((1 : Int32) <<< ((0 : Int32) &&& 31)) - (1 : Int32)))) &&& (((15 : Int32) <<< ((0 : Int32) &&& 31)) ^^^ (-1 : Int32)))) = (0 : Int32) then (1 : Int32)
        else (0 : Int32))
      else if (own_f1 ((p1 ||| ((286331153 : Int32) &&& (((1 : Int32) <<< ((0 : Int32) &&& 31)) - (1 : Int32)))) &&& (((15 : Int32) <<< ((0 : Int32) &&& 31)) ^^^ (-1 : Int32)))) = (0 : Int32) then (0 : Int32)
        else (0 : Int32))
    else if ((p2 &&& (2147483647 : Int32)) - ((p2 &&& (2147483647 : Int32)) / (9 : Int32)) * (9 : Int32)) = (1 : Int32) then (if (own_f1 p1) = (own_f2 p1) then (if (own_f1 ((p1 ||| ((286331153 : Int32) &&& (((1 : Int32) <<< ((4 : Int32) &&& 31)) - (1 : Int32)))) &&& (((15 : Int32) <<< ((4 : Int32) &&& 31)) ^^^ (-1 : Int32)))) = (1 : Int32) then (1 : Int32)
          else (0 : Int32))
        else if (own_f1 ((p1 ||| ((286331153 : Int32) &&& (((1 : Int32) <<< ((4 : Int32) &&& 31)) - (1 : Int32)))) &&& (((15 : Int32) <<< ((4 : Int32) &&& 31)) ^^^ (-1 : Int32)))) = (1 : Int32) then (0 : Int32)
          else (0 : Int32))
      else if ((p2 &&& (2147483647 : Int32)) - ((p2 &&& (2147483647 : Int32)) / (9 : Int32)) * (9 : Int32)) = (2 : Int32) then (if (own_f1 p1) = (own_f2 p1) then (if (own_f1 ((p1 ||| ((286331153 : Int32) &&& (((1 : Int32) <<< ((8 : Int32) &&& 31)) - (1 : Int32)))) &&& (((15 : Int32) <<< ((8 : Int32) &&& 31)) ^^^ (-1 : Int32)))) = (2 : Int32) then (1 : Int32)
            else (0 : Int32))
          else if (own_f1 ((p1 ||| ((286331153 : Int32) &&& (((1 : Int32) <<< ((8 : Int32) &&& 31)) - (1 : Int32)))) &&& (((15 : Int32) <<< ((8 : Int32) &&& 31)) ^^^ (-1 : Int32)))) = (2 : Int32) then (0 : Int32)
            else (0 : Int32))
        else if ((p2 &&& (2147483647 : Int32)) - ((p2 &&& (2147483647 : Int32)) / (9 : Int32)) * (9 : Int32)) = (3 : Int32) then (if (own_f1 p1) = (own_f2 p1) then (if (own_f1 ((p1 ||| ((286331153 : Int32) &&& (((1 : Int32) <<< ((12 : Int32) &&& 31)) - (1 : Int32)))) &&& (((15 : Int32) <<< ((12 : Int32) &&& 31)) ^^^ (-1 : Int32)))) = (3 : Int32) then (1 : Int32)
              else (0 : Int32))
            else if (own_f1 ((p1 ||| ((286331153 : Int32) &&& (((1 : Int32) <<< ((12 : Int32) &&& 31)) - (1 : Int32)))) &&& (((15 : Int32) <<< ((12 : Int32) &&& 31)) ^^^ (-1 : Int32)))) = (3 : Int32) then (0 : Int32)
              else (0 : Int32))
          else if ((p2 &&& (2147483647 : Int32)) - ((p2 &&& (2147483647 : Int32)) / (9 : Int32)) * (9 : Int32)) = (4 : Int32) then (if (own_f1 p1) = (own_f2 p1) then (if (own_f1 ((p1 ||| ((286331153 : Int32) &&& (((1 : Int32) <<< ((16 : Int32) &&& 31)) - (1 : Int32)))) &&& (((15 : Int32) <<< ((16 : Int32) &&& 31)) ^^^ (-1 : Int32)))) = (4 : Int32) then (1 : Int32)
                else (0 : Int32))
              else if (own_f1 ((p1 ||| ((286331153 : Int32) &&& (((1 : Int32) <<< ((16 : Int32) &&& 31)) - (1 : Int32)))) &&& (((15 : Int32) <<< ((16 : Int32) &&& 31)) ^^^ (-1 : Int32)))) = (4 : Int32) then (0 : Int32)
                else (0 : Int32))
            else if ((p2 &&& (2147483647 : Int32)) - ((p2 &&& (2147483647 : Int32)) / (9 : Int32)) * (9 : Int32)) = (5 : Int32) then (if (own_f1 p1) = (own_f2 p1) then (if (own_f1 ((p1 ||| ((286331153 : Int32) &&& (((1 : Int32) <<< ((20 : Int32) &&& 31)) - (1 : Int32)))) &&& (((15 : Int32) <<< ((20 : Int32) &&& 31)) ^^^ (-1 : Int32)))) = (5 : Int32) then (1 : Int32)
                  else (0 : Int32))
                else if (own_f1 ((p1 ||| ((286331153 : Int32) &&& (((1 : Int32) <<< ((20 : Int32) &&& 31)) - (1 : Int32)))) &&& (((15 : Int32) <<< ((20 : Int32) &&& 31)) ^^^ (-1 : Int32)))) = (5 : Int32) then (0 : Int32)
                  else (0 : Int32))
              else if ((p2 &&& (2147483647 : Int32)) - ((p2 &&& (2147483647 : Int32)) / (9 : Int32)) * (9 : Int32)) = (6 : Int32) then (if (own_f1 p1) = (own_f2 p1) then (if (own_f1 ((p1 ||| ((286331153 : Int32) &&& (((1 : Int32) <<< ((24 : Int32) &&& 31)) - (1 : Int32)))) &&& (((15 : Int32) <<< ((24 : Int32) &&& 31)) ^^^ (-1 : Int32)))) = (6 : Int32) then (1 : Int32)
                    else (0 : Int32))
                  else if (own_f1 ((p1 ||| ((286331153 : Int32) &&& (((1 : Int32) <<< ((24 : Int32) &&& 31)) - (1 : Int32)))) &&& (((15 : Int32) <<< ((24 : Int32) &&& 31)) ^^^ (-1 : Int32)))) = (6 : Int32) then (0 : Int32)
                    else (0 : Int32))
                else if ((p2 &&& (2147483647 : Int32)) - ((p2 &&& (2147483647 : Int32)) / (9 : Int32)) * (9 : Int32)) = (7 : Int32) then (if (own_f1 p1) = (own_f2 p1) then (if (own_f1 ((p1 ||| ((286331153 : Int32) &&& (((1 : Int32) <<< ((28 : Int32) &&& 31)) - (1 : Int32)))) &&& (((15 : Int32) <<< ((28 : Int32) &&& 31)) ^^^ (-1 : Int32)))) = (7 : Int32) then (1 : Int32)
                      else (0 : Int32))
                    else if (own_f1 ((p1 ||| ((286331153 : Int32) &&& (((1 : Int32) <<< ((28 : Int32) &&& 31)) - (1 : Int32)))) &&& (((15 : Int32) <<< ((28 : Int32) &&& 31)) ^^^ (-1 : Int32)))) = (7 : Int32) then (0 : Int32)
                      else (0 : Int32))
                  else if (own_f1 p1) = (own_f2 p1) then (if (own_f1 (p1 ||| (286331153 : Int32))) = (8 : Int32) then (1 : Int32)
                      else (0 : Int32))
                    else if (own_f1 (p1 ||| (286331153 : Int32))) = (8 : Int32) then (0 : Int32)
                      else (0 : Int32)
def own_Q0 (Z : State) (p1 : Int32) (p2 : Int32) (h0 : Heap) (n0 : Nat) (v : Option Value) (h : Heap) (L : List Loc) : Prop := v = some (.int (own_f0 p1 p2)) ∧ Fr n0 L
set_option maxRecDepth 65536 in
set_option maxHeartbeats 40000000 in
theorem own_rm0 (l : Launch) (Z : State) (a0 : Array Value) (hw : ∀ d ∈ tables_1, d.before a0 Z = true) (ws : List Jvm.Cond) (p1 : Int32) (p2 : Int32) (h0 : Heap) (n0 : Nat) (Z0 : n0 ≤ h0.size) :
    MetFree l x (head1 (Jvm.Cond.code x code maxLocals ret :: ws) room_1) (fun a U => a = #[(.int p1), (.int p2)] ∧ Z.Warmed39 U.vm ∧ U.heap = h0) (fun _ _ _ _ _ => True) (fun _ U o U' => ∃ v L, o = .returned v ∧ own_Q0 Z p1 p2 h0 n0 v U'.heap L ∧ FrameEnd U o U' L room_1.cells room_1.slots) := by
  refine MetFree.of_bodySF (plainFor_of_name own_pn18) hisR ?_
  intro p e s m args below meth c s₁ Bd hml0 hP hK
  obtain ⟨rfl, hZ, hh⟩ := hP
  have hx := Bd.exec
  have hby := Bd.bytes
  have hml : c.maxLocals = 8 := hml0
  have hown : s.vm.findClass "com/example/kerb/kerb/txn/SoleLocksLengthPinLaw" = some m.cls := findClass_of_methodNamed Bd.named
  have hnm := (name_of_methodNamed Bd.named Bd.method).1
  have X0 : Stand p l e room_1 s m #[(.int p1), (.int p2)] below meth c s₁ [] 0 0 := Stand.of_body Bd
  have e0 : s₁.heap = h0 := by rw [← hh, Bd.state]; rfl
  have N0 := Fr.nil n0
  have pre0 : ∀ t, Steps p.tables e below (s₁.setTop (mkF m 0 #[.val (.int p1), .val (.int p2), .unset, .unset, .unset, .unset, .unset, .unset] [])) t → Steps p.tables e below (s₁.setTop (entryFrame m #[(.int p1), (.int p2)] maxLocals)) t := fun t k => castTop (own_ef0 m p1 p2) k
  have k1 : ∀ t, Steps p.tables e below (s₁.setTop (mkF m 7 #[.val (.int p1), .val (.int p2), .unset, .unset, .unset, .unset, .unset, .unset] [(.int ((p2 &&& (2147483647 : Int32)) - ((p2 &&& (2147483647 : Int32)) / (9 : Int32)) * (9 : Int32)))])) t → Steps p.tables e below (s₁.setTop (entryFrame m #[(.int p1), (.int p2)] maxLocals)) t := by
    intro t kt
    refine pre0 t ?_
    show Steps p.tables e below (s₁.setTop (mkF m 0 #[.val (.int p1), .val (.int p2), .unset, .unset, .unset, .unset, .unset, .unset] [])) _
    refine XS.iloadN X0.here hx rfl (hb hby at_0) rfl ?_
    show Steps p.tables e below (s₁.setTop (mkF m 1 #[.val (.int p1), .val (.int p2), .unset, .unset, .unset, .unset, .unset, .unset] [(.int p2)])) _
    refine X0.ldcInt hx hown (mvT hZ (hw _ (List.mem_of_getElem? (i := 0) rfl))) (g := (mkF m 1 #[.val (.int p1), .val (.int p2), .unset, .unset, .unset, .unset, .unset, .unset] [(.int p2)])) rfl (hb hby at_1) _ ?_
    show Steps p.tables e below (s₁.setTop (mkF m 3 #[.val (.int p1), .val (.int p2), .unset, .unset, .unset, .unset, .unset, .unset] [(.int (2147483647 : Int32)), (.int p2)])) _
    refine XS.iand X0.here hx rfl (hb hby at_3) rfl ?_
    show Steps p.tables e below (s₁.setTop (mkF m 4 #[.val (.int p1), .val (.int p2), .unset, .unset, .unset, .unset, .unset, .unset] [(.int (p2 &&& (2147483647 : Int32)))])) _
    refine XS.bipush X0.here hx rfl (hb hby at_4) ?_
    show Steps p.tables e below (s₁.setTop (mkF m 6 #[.val (.int p1), .val (.int p2), .unset, .unset, .unset, .unset, .unset, .unset] [(.int (9 : Int32)), (.int (p2 &&& (2147483647 : Int32)))])) _
    refine XS.irem X0.here hx rfl (hb hby at_6) rfl (by decide) ?_
    exact kt
  by_cases hc1 : ((p2 &&& (2147483647 : Int32)) - ((p2 &&& (2147483647 : Int32)) / (9 : Int32)) * (9 : Int32)) = (0 : Int32)
  ·
    have k2 : ∀ t, Steps p.tables e below (s₁.setTop (mkF m 7 #[.val (.int p1), .val (.int p2), .unset, .unset, .unset, .unset, .unset, .unset] [(.int (0 : Int32))])) t → Steps p.tables e below (s₁.setTop (entryFrame m #[(.int p1), (.int p2)] maxLocals)) t := by
      intro t kt
      refine k1 t ?_
      rw [hc1]
      exact kt
    obtain ⟨v3, _, ⟨T3, L3, k3, n3⟩, -, X3, ⟨Lc3, hQ3, l3, y3, z3⟩, st3⟩ := Jvm.LawKit.callS X0 hx (y := (⟨"com/example/kerb/kerb/txn/SoleLocks", "length", "(I)I"⟩ : MethodName)) hown (mvT hZ (hw _ (List.mem_of_getElem? (i := 2) rfl))) (mvT hZ (hw _ (List.mem_of_getElem? (i := 3) rfl))) (mvT hZ (hw _ (List.mem_of_getElem? (i := 4) rfl))) (mvT hZ (hw _ (List.mem_of_getElem? (i := 5) rfl))) (by decide) (backOf (W := 0) (own_rm1 l Z a0 hw [] p1 h0 n0 Z0) hZ (hw _ (List.mem_of_getElem? (i := 5) rfl)) (hw _ (List.mem_of_getElem? (i := 4) rfl)) (by decide) (by decide)) (g := (mkF m 59 #[.val (.int p1), .val (.int p2), .val (.int (0 : Int32)), .val (.int (((1 : Int32) <<< ((0 : Int32) &&& 31)) - (1 : Int32))), .val (.int (p1 ||| ((286331153 : Int32) &&& (((1 : Int32) <<< ((0 : Int32) &&& 31)) - (1 : Int32))))), .val (.int ((p1 ||| ((286331153 : Int32) &&& (((1 : Int32) <<< ((0 : Int32) &&& 31)) - (1 : Int32)))) &&& (((15 : Int32) <<< ((0 : Int32) &&& 31)) ^^^ (-1 : Int32)))), .unset, .unset] [(.int p1)])) rfl (by rw [hml]; rfl) (argsL := [(.int p1)]) (rest := []) (lenOf own_pd69 rfl) rfl (by show 2 * 0 + _ ≤ _; exact Nat.le_of_eq rfl) (hb hby at_59) (fun _ _ => ⟨rfl, e0, (by decide : 0 + 0 ≤ _), (by decide : 0 + 0 ≤ _)⟩)
    dsimp only [Pt.U, Pt.locs, Pt.cells, Pt.slots] at X3 l3 y3 z3 st3 hQ3
    subst l3 y3 z3
    obtain ⟨rfl, N3q, e3⟩ := hQ3
    have N4 := Fr.app N0 N3q
    obtain ⟨v5, _, ⟨T5, L5, k5, n5⟩, -, X5, ⟨Lc5, hQ5, l5, y5, z5⟩, st5⟩ := Jvm.LawKit.callS X3 hx (y := (⟨"com/example/kerb/kerb/txn/SoleLocksLengthPinLaw", "ref", "(I)I"⟩ : MethodName)) hown (mvT hZ (hw _ (List.mem_of_getElem? (i := 6) rfl))) (mvT hZ (hw _ (List.mem_of_getElem? (i := 7) rfl))) (mvT hZ (hw _ (List.mem_of_getElem? (i := 8) rfl))) (mvT hZ (hw _ (List.mem_of_getElem? (i := 9) rfl))) (by decide) (backOf (W := 1) (own_rm2 l Z a0 hw [] p1 h0 n0 Z0) hZ (hw _ (List.mem_of_getElem? (i := 9) rfl)) (hw _ (List.mem_of_getElem? (i := 8) rfl)) (by decide) (by decide)) (g := (mkF m 63 #[.val (.int p1), .val (.int p2), .val (.int (0 : Int32)), .val (.int (((1 : Int32) <<< ((0 : Int32) &&& 31)) - (1 : Int32))), .val (.int (p1 ||| ((286331153 : Int32) &&& (((1 : Int32) <<< ((0 : Int32) &&& 31)) - (1 : Int32))))), .val (.int ((p1 ||| ((286331153 : Int32) &&& (((1 : Int32) <<< ((0 : Int32) &&& 31)) - (1 : Int32)))) &&& (((15 : Int32) <<< ((0 : Int32) &&& 31)) ^^^ (-1 : Int32)))), .unset, .unset] [(.int p1), (.int (own_f1 p1))])) rfl (by rw [hml]; rfl) (argsL := [(.int p1)]) (rest := [(.int (own_f1 p1))]) (lenOf own_pd69 rfl) rfl (by show 2 * 0 + _ ≤ _; exact Nat.le_of_eq rfl) (hb hby at_63) (fun _ _ => ⟨rfl, e3, (by decide : 0 + 0 ≤ _), (by decide : 0 + 0 ≤ _)⟩)
    dsimp only [Pt.U, Pt.locs, Pt.cells, Pt.slots] at X5 l5 y5 z5 st5 hQ5
    subst l5 y5 z5
    obtain ⟨rfl, N5q, e5⟩ := hQ5
    have N6 := Fr.app N4 N5q
    have k7 : ∀ t, Steps p.tables e below (T5.setTop (mkF m 66 #[.val (.int p1), .val (.int p2), .val (.int (0 : Int32)), .val (.int (((1 : Int32) <<< ((0 : Int32) &&& 31)) - (1 : Int32))), .val (.int (p1 ||| ((286331153 : Int32) &&& (((1 : Int32) <<< ((0 : Int32) &&& 31)) - (1 : Int32))))), .val (.int ((p1 ||| ((286331153 : Int32) &&& (((1 : Int32) <<< ((0 : Int32) &&& 31)) - (1 : Int32)))) &&& (((15 : Int32) <<< ((0 : Int32) &&& 31)) ^^^ (-1 : Int32)))), .unset, .unset] [(.int (own_f2 p1)), (.int (own_f1 p1))])) t → Steps p.tables e below (s₁.setTop (entryFrame m #[(.int p1), (.int p2)] maxLocals)) t := by
      intro t kt
      refine k2 t ?_
      show Steps p.tables e below (s₁.setTop (mkF m 7 #[.val (.int p1), .val (.int p2), .unset, .unset, .unset, .unset, .unset, .unset] [(.int (0 : Int32))])) _
      refine XS.istoreN X0.here hx rfl (hb hby at_7) rfl (l' := #[.val (.int p1), .val (.int p2), .val (.int (0 : Int32)), .unset, .unset, .unset, .unset, .unset]) rfl ?_
      show Steps p.tables e below (s₁.setTop (mkF m 8 #[.val (.int p1), .val (.int p2), .val (.int (0 : Int32)), .unset, .unset, .unset, .unset, .unset] [])) _
      refine XS.iloadN X0.here hx rfl (hb hby at_8) rfl ?_
      show Steps p.tables e below (s₁.setTop (mkF m 9 #[.val (.int p1), .val (.int p2), .val (.int (0 : Int32)), .unset, .unset, .unset, .unset, .unset] [(.int (0 : Int32))])) _
      refine XS.bipush X0.here hx rfl (hb hby at_9) ?_
      show Steps p.tables e below (s₁.setTop (mkF m 11 #[.val (.int p1), .val (.int p2), .val (.int (0 : Int32)), .unset, .unset, .unset, .unset, .unset] [(.int (8 : Int32)), (.int (0 : Int32))])) _
      refine XS.icmpYes X0.here hx rfl (pc0 := 11) (pc' := 18) rfl (hb hby at_11) rfl (feq (by decide : ¬ ((0 : Int32) = (8 : Int32)))).2 (by decide) (by decide) ?_
      show Steps p.tables e below (s₁.setTop (mkF m 18 #[.val (.int p1), .val (.int p2), .val (.int (0 : Int32)), .unset, .unset, .unset, .unset, .unset] [])) _
      refine XS.iconst X0.here hx rfl (hb hby at_18) ?_
      show Steps p.tables e below (s₁.setTop (mkF m 19 #[.val (.int p1), .val (.int p2), .val (.int (0 : Int32)), .unset, .unset, .unset, .unset, .unset] [(.int (1 : Int32))])) _
      refine XS.iconst X0.here hx rfl (hb hby at_19) ?_
      show Steps p.tables e below (s₁.setTop (mkF m 20 #[.val (.int p1), .val (.int p2), .val (.int (0 : Int32)), .unset, .unset, .unset, .unset, .unset] [(.int (4 : Int32)), (.int (1 : Int32))])) _
      refine XS.iloadN X0.here hx rfl (hb hby at_20) rfl ?_
      show Steps p.tables e below (s₁.setTop (mkF m 21 #[.val (.int p1), .val (.int p2), .val (.int (0 : Int32)), .unset, .unset, .unset, .unset, .unset] [(.int (0 : Int32)), (.int (4 : Int32)), (.int (1 : Int32))])) _
      refine XS.imul X0.here hx rfl (hb hby at_21) rfl ?_
      show Steps p.tables e below (s₁.setTop (mkF m 22 #[.val (.int p1), .val (.int p2), .val (.int (0 : Int32)), .unset, .unset, .unset, .unset, .unset] [(.int (0 : Int32)), (.int (1 : Int32))])) _
      refine XS.ishl X0.here hx rfl (hb hby at_22) rfl ?_
      show Steps p.tables e below (s₁.setTop (mkF m 23 #[.val (.int p1), .val (.int p2), .val (.int (0 : Int32)), .unset, .unset, .unset, .unset, .unset] [(.int ((1 : Int32) <<< ((0 : Int32) &&& 31)))])) _
      refine XS.iconst X0.here hx rfl (hb hby at_23) ?_
      show Steps p.tables e below (s₁.setTop (mkF m 24 #[.val (.int p1), .val (.int p2), .val (.int (0 : Int32)), .unset, .unset, .unset, .unset, .unset] [(.int (1 : Int32)), (.int ((1 : Int32) <<< ((0 : Int32) &&& 31)))])) _
      refine XS.isub X0.here hx rfl (hb hby at_24) rfl ?_
      show Steps p.tables e below (s₁.setTop (mkF m 25 #[.val (.int p1), .val (.int p2), .val (.int (0 : Int32)), .unset, .unset, .unset, .unset, .unset] [(.int (((1 : Int32) <<< ((0 : Int32) &&& 31)) - (1 : Int32)))])) _
      refine XS.istoreN X0.here hx rfl (hb hby at_25) rfl (l' := #[.val (.int p1), .val (.int p2), .val (.int (0 : Int32)), .val (.int (((1 : Int32) <<< ((0 : Int32) &&& 31)) - (1 : Int32))), .unset, .unset, .unset, .unset]) rfl ?_
      show Steps p.tables e below (s₁.setTop (mkF m 26 #[.val (.int p1), .val (.int p2), .val (.int (0 : Int32)), .val (.int (((1 : Int32) <<< ((0 : Int32) &&& 31)) - (1 : Int32))), .unset, .unset, .unset, .unset] [])) _
      refine XS.iloadN X0.here hx rfl (hb hby at_26) rfl ?_
      show Steps p.tables e below (s₁.setTop (mkF m 27 #[.val (.int p1), .val (.int p2), .val (.int (0 : Int32)), .val (.int (((1 : Int32) <<< ((0 : Int32) &&& 31)) - (1 : Int32))), .unset, .unset, .unset, .unset] [(.int p1)])) _
      refine X0.ldcInt hx hown (mvT hZ (hw _ (List.mem_of_getElem? (i := 1) rfl))) (g := (mkF m 27 #[.val (.int p1), .val (.int p2), .val (.int (0 : Int32)), .val (.int (((1 : Int32) <<< ((0 : Int32) &&& 31)) - (1 : Int32))), .unset, .unset, .unset, .unset] [(.int p1)])) rfl (hb hby at_27) _ ?_
      show Steps p.tables e below (s₁.setTop (mkF m 29 #[.val (.int p1), .val (.int p2), .val (.int (0 : Int32)), .val (.int (((1 : Int32) <<< ((0 : Int32) &&& 31)) - (1 : Int32))), .unset, .unset, .unset, .unset] [(.int (286331153 : Int32)), (.int p1)])) _
      refine XS.iloadN X0.here hx rfl (hb hby at_29) rfl ?_
      show Steps p.tables e below (s₁.setTop (mkF m 30 #[.val (.int p1), .val (.int p2), .val (.int (0 : Int32)), .val (.int (((1 : Int32) <<< ((0 : Int32) &&& 31)) - (1 : Int32))), .unset, .unset, .unset, .unset] [(.int (((1 : Int32) <<< ((0 : Int32) &&& 31)) - (1 : Int32))), (.int (286331153 : Int32)), (.int p1)])) _
      refine XS.iand X0.here hx rfl (hb hby at_30) rfl ?_
      show Steps p.tables e below (s₁.setTop (mkF m 31 #[.val (.int p1), .val (.int p2), .val (.int (0 : Int32)), .val (.int (((1 : Int32) <<< ((0 : Int32) &&& 31)) - (1 : Int32))), .unset, .unset, .unset, .unset] [(.int ((286331153 : Int32) &&& (((1 : Int32) <<< ((0 : Int32) &&& 31)) - (1 : Int32)))), (.int p1)])) _
      refine XS.ior X0.here hx rfl (hb hby at_31) rfl ?_
      show Steps p.tables e below (s₁.setTop (mkF m 32 #[.val (.int p1), .val (.int p2), .val (.int (0 : Int32)), .val (.int (((1 : Int32) <<< ((0 : Int32) &&& 31)) - (1 : Int32))), .unset, .unset, .unset, .unset] [(.int (p1 ||| ((286331153 : Int32) &&& (((1 : Int32) <<< ((0 : Int32) &&& 31)) - (1 : Int32)))))])) _
      refine XS.istore X0.here hx rfl (hb hby at_32) rfl (l' := #[.val (.int p1), .val (.int p2), .val (.int (0 : Int32)), .val (.int (((1 : Int32) <<< ((0 : Int32) &&& 31)) - (1 : Int32))), .val (.int (p1 ||| ((286331153 : Int32) &&& (((1 : Int32) <<< ((0 : Int32) &&& 31)) - (1 : Int32))))), .unset, .unset, .unset]) rfl ?_
      show Steps p.tables e below (s₁.setTop (mkF m 34 #[.val (.int p1), .val (.int p2), .val (.int (0 : Int32)), .val (.int (((1 : Int32) <<< ((0 : Int32) &&& 31)) - (1 : Int32))), .val (.int (p1 ||| ((286331153 : Int32) &&& (((1 : Int32) <<< ((0 : Int32) &&& 31)) - (1 : Int32))))), .unset, .unset, .unset] [])) _
      refine XS.iloadN X0.here hx rfl (hb hby at_34) rfl ?_
      show Steps p.tables e below (s₁.setTop (mkF m 35 #[.val (.int p1), .val (.int p2), .val (.int (0 : Int32)), .val (.int (((1 : Int32) <<< ((0 : Int32) &&& 31)) - (1 : Int32))), .val (.int (p1 ||| ((286331153 : Int32) &&& (((1 : Int32) <<< ((0 : Int32) &&& 31)) - (1 : Int32))))), .unset, .unset, .unset] [(.int (0 : Int32))])) _
      refine XS.bipush X0.here hx rfl (hb hby at_35) ?_
      show Steps p.tables e below (s₁.setTop (mkF m 37 #[.val (.int p1), .val (.int p2), .val (.int (0 : Int32)), .val (.int (((1 : Int32) <<< ((0 : Int32) &&& 31)) - (1 : Int32))), .val (.int (p1 ||| ((286331153 : Int32) &&& (((1 : Int32) <<< ((0 : Int32) &&& 31)) - (1 : Int32))))), .unset, .unset, .unset] [(.int (8 : Int32)), (.int (0 : Int32))])) _
      refine XS.icmpYes X0.here hx rfl (pc0 := 37) (pc' := 45) rfl (hb hby at_37) rfl (feq (by decide : ¬ ((0 : Int32) = (8 : Int32)))).2 (by decide) (by decide) ?_
      show Steps p.tables e below (s₁.setTop (mkF m 45 #[.val (.int p1), .val (.int p2), .val (.int (0 : Int32)), .val (.int (((1 : Int32) <<< ((0 : Int32) &&& 31)) - (1 : Int32))), .val (.int (p1 ||| ((286331153 : Int32) &&& (((1 : Int32) <<< ((0 : Int32) &&& 31)) - (1 : Int32))))), .unset, .unset, .unset] [])) _
      refine XS.iload X0.here hx rfl (hb hby at_45) rfl ?_
      show Steps p.tables e below (s₁.setTop (mkF m 47 #[.val (.int p1), .val (.int p2), .val (.int (0 : Int32)), .val (.int (((1 : Int32) <<< ((0 : Int32) &&& 31)) - (1 : Int32))), .val (.int (p1 ||| ((286331153 : Int32) &&& (((1 : Int32) <<< ((0 : Int32) &&& 31)) - (1 : Int32))))), .unset, .unset, .unset] [(.int (p1 ||| ((286331153 : Int32) &&& (((1 : Int32) <<< ((0 : Int32) &&& 31)) - (1 : Int32)))))])) _
      refine XS.bipush X0.here hx rfl (hb hby at_47) ?_
      show Steps p.tables e below (s₁.setTop (mkF m 49 #[.val (.int p1), .val (.int p2), .val (.int (0 : Int32)), .val (.int (((1 : Int32) <<< ((0 : Int32) &&& 31)) - (1 : Int32))), .val (.int (p1 ||| ((286331153 : Int32) &&& (((1 : Int32) <<< ((0 : Int32) &&& 31)) - (1 : Int32))))), .unset, .unset, .unset] [(.int (15 : Int32)), (.int (p1 ||| ((286331153 : Int32) &&& (((1 : Int32) <<< ((0 : Int32) &&& 31)) - (1 : Int32)))))])) _
      refine XS.iconst X0.here hx rfl (hb hby at_49) ?_
      show Steps p.tables e below (s₁.setTop (mkF m 50 #[.val (.int p1), .val (.int p2), .val (.int (0 : Int32)), .val (.int (((1 : Int32) <<< ((0 : Int32) &&& 31)) - (1 : Int32))), .val (.int (p1 ||| ((286331153 : Int32) &&& (((1 : Int32) <<< ((0 : Int32) &&& 31)) - (1 : Int32))))), .unset, .unset, .unset] [(.int (4 : Int32)), (.int (15 : Int32)), (.int (p1 ||| ((286331153 : Int32) &&& (((1 : Int32) <<< ((0 : Int32) &&& 31)) - (1 : Int32)))))])) _
      refine XS.iloadN X0.here hx rfl (hb hby at_50) rfl ?_
      show Steps p.tables e below (s₁.setTop (mkF m 51 #[.val (.int p1), .val (.int p2), .val (.int (0 : Int32)), .val (.int (((1 : Int32) <<< ((0 : Int32) &&& 31)) - (1 : Int32))), .val (.int (p1 ||| ((286331153 : Int32) &&& (((1 : Int32) <<< ((0 : Int32) &&& 31)) - (1 : Int32))))), .unset, .unset, .unset] [(.int (0 : Int32)), (.int (4 : Int32)), (.int (15 : Int32)), (.int (p1 ||| ((286331153 : Int32) &&& (((1 : Int32) <<< ((0 : Int32) &&& 31)) - (1 : Int32)))))])) _
      refine XS.imul X0.here hx rfl (hb hby at_51) rfl ?_
      show Steps p.tables e below (s₁.setTop (mkF m 52 #[.val (.int p1), .val (.int p2), .val (.int (0 : Int32)), .val (.int (((1 : Int32) <<< ((0 : Int32) &&& 31)) - (1 : Int32))), .val (.int (p1 ||| ((286331153 : Int32) &&& (((1 : Int32) <<< ((0 : Int32) &&& 31)) - (1 : Int32))))), .unset, .unset, .unset] [(.int (0 : Int32)), (.int (15 : Int32)), (.int (p1 ||| ((286331153 : Int32) &&& (((1 : Int32) <<< ((0 : Int32) &&& 31)) - (1 : Int32)))))])) _
      refine XS.ishl X0.here hx rfl (hb hby at_52) rfl ?_
      show Steps p.tables e below (s₁.setTop (mkF m 53 #[.val (.int p1), .val (.int p2), .val (.int (0 : Int32)), .val (.int (((1 : Int32) <<< ((0 : Int32) &&& 31)) - (1 : Int32))), .val (.int (p1 ||| ((286331153 : Int32) &&& (((1 : Int32) <<< ((0 : Int32) &&& 31)) - (1 : Int32))))), .unset, .unset, .unset] [(.int ((15 : Int32) <<< ((0 : Int32) &&& 31))), (.int (p1 ||| ((286331153 : Int32) &&& (((1 : Int32) <<< ((0 : Int32) &&& 31)) - (1 : Int32)))))])) _
      refine XS.iconst X0.here hx rfl (hb hby at_53) ?_
      show Steps p.tables e below (s₁.setTop (mkF m 54 #[.val (.int p1), .val (.int p2), .val (.int (0 : Int32)), .val (.int (((1 : Int32) <<< ((0 : Int32) &&& 31)) - (1 : Int32))), .val (.int (p1 ||| ((286331153 : Int32) &&& (((1 : Int32) <<< ((0 : Int32) &&& 31)) - (1 : Int32))))), .unset, .unset, .unset] [(.int (-1 : Int32)), (.int ((15 : Int32) <<< ((0 : Int32) &&& 31))), (.int (p1 ||| ((286331153 : Int32) &&& (((1 : Int32) <<< ((0 : Int32) &&& 31)) - (1 : Int32)))))])) _
      refine XS.ixor X0.here hx rfl (hb hby at_54) rfl ?_
      show Steps p.tables e below (s₁.setTop (mkF m 55 #[.val (.int p1), .val (.int p2), .val (.int (0 : Int32)), .val (.int (((1 : Int32) <<< ((0 : Int32) &&& 31)) - (1 : Int32))), .val (.int (p1 ||| ((286331153 : Int32) &&& (((1 : Int32) <<< ((0 : Int32) &&& 31)) - (1 : Int32))))), .unset, .unset, .unset] [(.int (((15 : Int32) <<< ((0 : Int32) &&& 31)) ^^^ (-1 : Int32))), (.int (p1 ||| ((286331153 : Int32) &&& (((1 : Int32) <<< ((0 : Int32) &&& 31)) - (1 : Int32)))))])) _
      refine XS.iand X0.here hx rfl (hb hby at_55) rfl ?_
      show Steps p.tables e below (s₁.setTop (mkF m 56 #[.val (.int p1), .val (.int p2), .val (.int (0 : Int32)), .val (.int (((1 : Int32) <<< ((0 : Int32) &&& 31)) - (1 : Int32))), .val (.int (p1 ||| ((286331153 : Int32) &&& (((1 : Int32) <<< ((0 : Int32) &&& 31)) - (1 : Int32))))), .unset, .unset, .unset] [(.int ((p1 ||| ((286331153 : Int32) &&& (((1 : Int32) <<< ((0 : Int32) &&& 31)) - (1 : Int32)))) &&& (((15 : Int32) <<< ((0 : Int32) &&& 31)) ^^^ (-1 : Int32))))])) _
      refine XS.istore X0.here hx rfl (hb hby at_56) rfl (l' := #[.val (.int p1), .val (.int p2), .val (.int (0 : Int32)), .val (.int (((1 : Int32) <<< ((0 : Int32) &&& 31)) - (1 : Int32))), .val (.int (p1 ||| ((286331153 : Int32) &&& (((1 : Int32) <<< ((0 : Int32) &&& 31)) - (1 : Int32))))), .val (.int ((p1 ||| ((286331153 : Int32) &&& (((1 : Int32) <<< ((0 : Int32) &&& 31)) - (1 : Int32)))) &&& (((15 : Int32) <<< ((0 : Int32) &&& 31)) ^^^ (-1 : Int32)))), .unset, .unset]) rfl ?_
      show Steps p.tables e below (s₁.setTop (mkF m 58 #[.val (.int p1), .val (.int p2), .val (.int (0 : Int32)), .val (.int (((1 : Int32) <<< ((0 : Int32) &&& 31)) - (1 : Int32))), .val (.int (p1 ||| ((286331153 : Int32) &&& (((1 : Int32) <<< ((0 : Int32) &&& 31)) - (1 : Int32))))), .val (.int ((p1 ||| ((286331153 : Int32) &&& (((1 : Int32) <<< ((0 : Int32) &&& 31)) - (1 : Int32)))) &&& (((15 : Int32) <<< ((0 : Int32) &&& 31)) ^^^ (-1 : Int32)))), .unset, .unset] [])) _
      refine XS.iloadN X0.here hx rfl (hb hby at_58) rfl ?_
      show Steps p.tables e below (s₁.setTop (mkF m 59 #[.val (.int p1), .val (.int p2), .val (.int (0 : Int32)), .val (.int (((1 : Int32) <<< ((0 : Int32) &&& 31)) - (1 : Int32))), .val (.int (p1 ||| ((286331153 : Int32) &&& (((1 : Int32) <<< ((0 : Int32) &&& 31)) - (1 : Int32))))), .val (.int ((p1 ||| ((286331153 : Int32) &&& (((1 : Int32) <<< ((0 : Int32) &&& 31)) - (1 : Int32)))) &&& (((15 : Int32) <<< ((0 : Int32) &&& 31)) ^^^ (-1 : Int32)))), .unset, .unset] [(.int p1)])) _
      refine st3 _ ?_
      show Steps p.tables e below (T3.setTop (mkF m 62 #[.val (.int p1), .val (.int p2), .val (.int (0 : Int32)), .val (.int (((1 : Int32) <<< ((0 : Int32) &&& 31)) - (1 : Int32))), .val (.int (p1 ||| ((286331153 : Int32) &&& (((1 : Int32) <<< ((0 : Int32) &&& 31)) - (1 : Int32))))), .val (.int ((p1 ||| ((286331153 : Int32) &&& (((1 : Int32) <<< ((0 : Int32) &&& 31)) - (1 : Int32)))) &&& (((15 : Int32) <<< ((0 : Int32) &&& 31)) ^^^ (-1 : Int32)))), .unset, .unset] [(.int (own_f1 p1))])) _
      refine XS.iloadN X3.here hx rfl (hb hby at_62) rfl ?_
      show Steps p.tables e below (T3.setTop (mkF m 63 #[.val (.int p1), .val (.int p2), .val (.int (0 : Int32)), .val (.int (((1 : Int32) <<< ((0 : Int32) &&& 31)) - (1 : Int32))), .val (.int (p1 ||| ((286331153 : Int32) &&& (((1 : Int32) <<< ((0 : Int32) &&& 31)) - (1 : Int32))))), .val (.int ((p1 ||| ((286331153 : Int32) &&& (((1 : Int32) <<< ((0 : Int32) &&& 31)) - (1 : Int32)))) &&& (((15 : Int32) <<< ((0 : Int32) &&& 31)) ^^^ (-1 : Int32)))), .unset, .unset] [(.int p1), (.int (own_f1 p1))])) _
      refine st5 _ ?_
      exact kt
    by_cases hc2 : (own_f1 p1) = (own_f2 p1)
    ·
      obtain ⟨v8, _, ⟨T8, L8, k8, n8⟩, -, X8, ⟨Lc8, hQ8, l8, y8, z8⟩, st8⟩ := Jvm.LawKit.callS X5 hx (y := (⟨"com/example/kerb/kerb/txn/SoleLocks", "length", "(I)I"⟩ : MethodName)) hown (mvT hZ (hw _ (List.mem_of_getElem? (i := 2) rfl))) (mvT hZ (hw _ (List.mem_of_getElem? (i := 3) rfl))) (mvT hZ (hw _ (List.mem_of_getElem? (i := 4) rfl))) (mvT hZ (hw _ (List.mem_of_getElem? (i := 5) rfl))) (by decide) (backOf (W := 0) (own_rm1 l Z a0 hw [] ((p1 ||| ((286331153 : Int32) &&& (((1 : Int32) <<< ((0 : Int32) &&& 31)) - (1 : Int32)))) &&& (((15 : Int32) <<< ((0 : Int32) &&& 31)) ^^^ (-1 : Int32))) h0 n0 Z0) hZ (hw _ (List.mem_of_getElem? (i := 5) rfl)) (hw _ (List.mem_of_getElem? (i := 4) rfl)) (by decide) (by decide)) (g := (mkF m 78 #[.val (.int p1), .val (.int p2), .val (.int (0 : Int32)), .val (.int (((1 : Int32) <<< ((0 : Int32) &&& 31)) - (1 : Int32))), .val (.int (p1 ||| ((286331153 : Int32) &&& (((1 : Int32) <<< ((0 : Int32) &&& 31)) - (1 : Int32))))), .val (.int ((p1 ||| ((286331153 : Int32) &&& (((1 : Int32) <<< ((0 : Int32) &&& 31)) - (1 : Int32)))) &&& (((15 : Int32) <<< ((0 : Int32) &&& 31)) ^^^ (-1 : Int32)))), .val (.int (1 : Int32)), .unset] [(.int ((p1 ||| ((286331153 : Int32) &&& (((1 : Int32) <<< ((0 : Int32) &&& 31)) - (1 : Int32)))) &&& (((15 : Int32) <<< ((0 : Int32) &&& 31)) ^^^ (-1 : Int32))))])) rfl (by rw [hml]; rfl) (argsL := [(.int ((p1 ||| ((286331153 : Int32) &&& (((1 : Int32) <<< ((0 : Int32) &&& 31)) - (1 : Int32)))) &&& (((15 : Int32) <<< ((0 : Int32) &&& 31)) ^^^ (-1 : Int32))))]) (rest := []) (lenOf own_pd69 rfl) rfl (by show 2 * 0 + _ ≤ _; exact Nat.le_of_eq rfl) (hb hby at_78) (fun _ _ => ⟨rfl, e5, (by decide : 0 + 0 ≤ _), (by decide : 0 + 0 ≤ _)⟩)
      dsimp only [Pt.U, Pt.locs, Pt.cells, Pt.slots] at X8 l8 y8 z8 st8 hQ8
      subst l8 y8 z8
      obtain ⟨rfl, N8q, e8⟩ := hQ8
      have N9 := Fr.app N6 N8q
      have k10 : ∀ t, Steps p.tables e below (T8.setTop (mkF m 82 #[.val (.int p1), .val (.int p2), .val (.int (0 : Int32)), .val (.int (((1 : Int32) <<< ((0 : Int32) &&& 31)) - (1 : Int32))), .val (.int (p1 ||| ((286331153 : Int32) &&& (((1 : Int32) <<< ((0 : Int32) &&& 31)) - (1 : Int32))))), .val (.int ((p1 ||| ((286331153 : Int32) &&& (((1 : Int32) <<< ((0 : Int32) &&& 31)) - (1 : Int32)))) &&& (((15 : Int32) <<< ((0 : Int32) &&& 31)) ^^^ (-1 : Int32)))), .val (.int (1 : Int32)), .unset] [(.int (0 : Int32)), (.int (own_f1 ((p1 ||| ((286331153 : Int32) &&& (((1 : Int32) <<< ((0 : Int32) &&& 31)) - (1 : Int32)))) &&& (((15 : Int32) <<< ((0 : Int32) &&& 31)) ^^^ (-1 : Int32)))))])) t → Steps p.tables e below (s₁.setTop (entryFrame m #[(.int p1), (.int p2)] maxLocals)) t := by
        intro t kt
        refine k7 t ?_
        show Steps p.tables e below (T5.setTop (mkF m 66 #[.val (.int p1), .val (.int p2), .val (.int (0 : Int32)), .val (.int (((1 : Int32) <<< ((0 : Int32) &&& 31)) - (1 : Int32))), .val (.int (p1 ||| ((286331153 : Int32) &&& (((1 : Int32) <<< ((0 : Int32) &&& 31)) - (1 : Int32))))), .val (.int ((p1 ||| ((286331153 : Int32) &&& (((1 : Int32) <<< ((0 : Int32) &&& 31)) - (1 : Int32)))) &&& (((15 : Int32) <<< ((0 : Int32) &&& 31)) ^^^ (-1 : Int32)))), .unset, .unset] [(.int (own_f2 p1)), (.int (own_f1 p1))])) _
        refine XS.icmpNo X5.here hx rfl (hb hby at_66) rfl (teq hc2).2 ?_
        show Steps p.tables e below (T5.setTop (mkF m 69 #[.val (.int p1), .val (.int p2), .val (.int (0 : Int32)), .val (.int (((1 : Int32) <<< ((0 : Int32) &&& 31)) - (1 : Int32))), .val (.int (p1 ||| ((286331153 : Int32) &&& (((1 : Int32) <<< ((0 : Int32) &&& 31)) - (1 : Int32))))), .val (.int ((p1 ||| ((286331153 : Int32) &&& (((1 : Int32) <<< ((0 : Int32) &&& 31)) - (1 : Int32)))) &&& (((15 : Int32) <<< ((0 : Int32) &&& 31)) ^^^ (-1 : Int32)))), .unset, .unset] [])) _
        refine XS.iconst X5.here hx rfl (hb hby at_69) ?_
        show Steps p.tables e below (T5.setTop (mkF m 70 #[.val (.int p1), .val (.int p2), .val (.int (0 : Int32)), .val (.int (((1 : Int32) <<< ((0 : Int32) &&& 31)) - (1 : Int32))), .val (.int (p1 ||| ((286331153 : Int32) &&& (((1 : Int32) <<< ((0 : Int32) &&& 31)) - (1 : Int32))))), .val (.int ((p1 ||| ((286331153 : Int32) &&& (((1 : Int32) <<< ((0 : Int32) &&& 31)) - (1 : Int32)))) &&& (((15 : Int32) <<< ((0 : Int32) &&& 31)) ^^^ (-1 : Int32)))), .unset, .unset] [(.int (1 : Int32))])) _
        refine XS.goto X5.here hx rfl (pc0 := 70) (pc' := 74) rfl (hb hby at_70) (by decide) (by decide) ?_
        show Steps p.tables e below (T5.setTop (mkF m 74 #[.val (.int p1), .val (.int p2), .val (.int (0 : Int32)), .val (.int (((1 : Int32) <<< ((0 : Int32) &&& 31)) - (1 : Int32))), .val (.int (p1 ||| ((286331153 : Int32) &&& (((1 : Int32) <<< ((0 : Int32) &&& 31)) - (1 : Int32))))), .val (.int ((p1 ||| ((286331153 : Int32) &&& (((1 : Int32) <<< ((0 : Int32) &&& 31)) - (1 : Int32)))) &&& (((15 : Int32) <<< ((0 : Int32) &&& 31)) ^^^ (-1 : Int32)))), .unset, .unset] [(.int (1 : Int32))])) _
        refine XS.istore X5.here hx rfl (hb hby at_74) rfl (l' := #[.val (.int p1), .val (.int p2), .val (.int (0 : Int32)), .val (.int (((1 : Int32) <<< ((0 : Int32) &&& 31)) - (1 : Int32))), .val (.int (p1 ||| ((286331153 : Int32) &&& (((1 : Int32) <<< ((0 : Int32) &&& 31)) - (1 : Int32))))), .val (.int ((p1 ||| ((286331153 : Int32) &&& (((1 : Int32) <<< ((0 : Int32) &&& 31)) - (1 : Int32)))) &&& (((15 : Int32) <<< ((0 : Int32) &&& 31)) ^^^ (-1 : Int32)))), .val (.int (1 : Int32)), .unset]) rfl ?_
        show Steps p.tables e below (T5.setTop (mkF m 76 #[.val (.int p1), .val (.int p2), .val (.int (0 : Int32)), .val (.int (((1 : Int32) <<< ((0 : Int32) &&& 31)) - (1 : Int32))), .val (.int (p1 ||| ((286331153 : Int32) &&& (((1 : Int32) <<< ((0 : Int32) &&& 31)) - (1 : Int32))))), .val (.int ((p1 ||| ((286331153 : Int32) &&& (((1 : Int32) <<< ((0 : Int32) &&& 31)) - (1 : Int32)))) &&& (((15 : Int32) <<< ((0 : Int32) &&& 31)) ^^^ (-1 : Int32)))), .val (.int (1 : Int32)), .unset] [])) _
        refine XS.iload X5.here hx rfl (hb hby at_76) rfl ?_
        show Steps p.tables e below (T5.setTop (mkF m 78 #[.val (.int p1), .val (.int p2), .val (.int (0 : Int32)), .val (.int (((1 : Int32) <<< ((0 : Int32) &&& 31)) - (1 : Int32))), .val (.int (p1 ||| ((286331153 : Int32) &&& (((1 : Int32) <<< ((0 : Int32) &&& 31)) - (1 : Int32))))), .val (.int ((p1 ||| ((286331153 : Int32) &&& (((1 : Int32) <<< ((0 : Int32) &&& 31)) - (1 : Int32)))) &&& (((15 : Int32) <<< ((0 : Int32) &&& 31)) ^^^ (-1 : Int32)))), .val (.int (1 : Int32)), .unset] [(.int ((p1 ||| ((286331153 : Int32) &&& (((1 : Int32) <<< ((0 : Int32) &&& 31)) - (1 : Int32)))) &&& (((15 : Int32) <<< ((0 : Int32) &&& 31)) ^^^ (-1 : Int32))))])) _
        refine st8 _ ?_
        show Steps p.tables e below (T8.setTop (mkF m 81 #[.val (.int p1), .val (.int p2), .val (.int (0 : Int32)), .val (.int (((1 : Int32) <<< ((0 : Int32) &&& 31)) - (1 : Int32))), .val (.int (p1 ||| ((286331153 : Int32) &&& (((1 : Int32) <<< ((0 : Int32) &&& 31)) - (1 : Int32))))), .val (.int ((p1 ||| ((286331153 : Int32) &&& (((1 : Int32) <<< ((0 : Int32) &&& 31)) - (1 : Int32)))) &&& (((15 : Int32) <<< ((0 : Int32) &&& 31)) ^^^ (-1 : Int32)))), .val (.int (1 : Int32)), .unset] [(.int (own_f1 ((p1 ||| ((286331153 : Int32) &&& (((1 : Int32) <<< ((0 : Int32) &&& 31)) - (1 : Int32)))) &&& (((15 : Int32) <<< ((0 : Int32) &&& 31)) ^^^ (-1 : Int32)))))])) _
        refine XS.iloadN X8.here hx rfl (hb hby at_81) rfl ?_
        exact kt
      by_cases hc3 : (own_f1 ((p1 ||| ((286331153 : Int32) &&& (((1 : Int32) <<< ((0 : Int32) &&& 31)) - (1 : Int32)))) &&& (((15 : Int32) <<< ((0 : Int32) &&& 31)) ^^^ (-1 : Int32)))) = (0 : Int32)
      ·
        obtain ⟨fs, hr, hrun, hended, hW, hsame⟩ := X8.leave (v := some (.int (1 : Int32))) (fun h => by rw [Bd.returns] at h; cases h)
        refine ⟨_, _, k10 _ ?_, hrun, hended, _, _, rfl, ?_, ⟨_, rfl⟩, hW, hsame.mono (by decide) (by decide)⟩
        · show Steps p.tables e below (T8.setTop (mkF m 82 #[.val (.int p1), .val (.int p2), .val (.int (0 : Int32)), .val (.int (((1 : Int32) <<< ((0 : Int32) &&& 31)) - (1 : Int32))), .val (.int (p1 ||| ((286331153 : Int32) &&& (((1 : Int32) <<< ((0 : Int32) &&& 31)) - (1 : Int32))))), .val (.int ((p1 ||| ((286331153 : Int32) &&& (((1 : Int32) <<< ((0 : Int32) &&& 31)) - (1 : Int32)))) &&& (((15 : Int32) <<< ((0 : Int32) &&& 31)) ^^^ (-1 : Int32)))), .val (.int (1 : Int32)), .unset] [(.int (0 : Int32)), (.int (own_f1 ((p1 ||| ((286331153 : Int32) &&& (((1 : Int32) <<< ((0 : Int32) &&& 31)) - (1 : Int32)))) &&& (((15 : Int32) <<< ((0 : Int32) &&& 31)) ^^^ (-1 : Int32)))))])) _
          refine XS.icmpNo X8.here hx rfl (hb hby at_82) rfl (teq hc3).2 ?_
          show Steps p.tables e below (T8.setTop (mkF m 85 #[.val (.int p1), .val (.int p2), .val (.int (0 : Int32)), .val (.int (((1 : Int32) <<< ((0 : Int32) &&& 31)) - (1 : Int32))), .val (.int (p1 ||| ((286331153 : Int32) &&& (((1 : Int32) <<< ((0 : Int32) &&& 31)) - (1 : Int32))))), .val (.int ((p1 ||| ((286331153 : Int32) &&& (((1 : Int32) <<< ((0 : Int32) &&& 31)) - (1 : Int32)))) &&& (((15 : Int32) <<< ((0 : Int32) &&& 31)) ^^^ (-1 : Int32)))), .val (.int (1 : Int32)), .unset] [])) _
          refine XS.iconst X8.here hx rfl (hb hby at_85) ?_
          show Steps p.tables e below (T8.setTop (mkF m 86 #[.val (.int p1), .val (.int p2), .val (.int (0 : Int32)), .val (.int (((1 : Int32) <<< ((0 : Int32) &&& 31)) - (1 : Int32))), .val (.int (p1 ||| ((286331153 : Int32) &&& (((1 : Int32) <<< ((0 : Int32) &&& 31)) - (1 : Int32))))), .val (.int ((p1 ||| ((286331153 : Int32) &&& (((1 : Int32) <<< ((0 : Int32) &&& 31)) - (1 : Int32)))) &&& (((15 : Int32) <<< ((0 : Int32) &&& 31)) ^^^ (-1 : Int32)))), .val (.int (1 : Int32)), .unset] [(.int (1 : Int32))])) _
          refine XS.goto X8.here hx rfl (pc0 := 86) (pc' := 90) rfl (hb hby at_86) (by decide) (by decide) ?_
          show Steps p.tables e below (T8.setTop (mkF m 90 #[.val (.int p1), .val (.int p2), .val (.int (0 : Int32)), .val (.int (((1 : Int32) <<< ((0 : Int32) &&& 31)) - (1 : Int32))), .val (.int (p1 ||| ((286331153 : Int32) &&& (((1 : Int32) <<< ((0 : Int32) &&& 31)) - (1 : Int32))))), .val (.int ((p1 ||| ((286331153 : Int32) &&& (((1 : Int32) <<< ((0 : Int32) &&& 31)) - (1 : Int32)))) &&& (((15 : Int32) <<< ((0 : Int32) &&& 31)) ^^^ (-1 : Int32)))), .val (.int (1 : Int32)), .unset] [(.int (1 : Int32))])) _
          refine XS.istore X8.here hx rfl (hb hby at_90) rfl (l' := #[.val (.int p1), .val (.int p2), .val (.int (0 : Int32)), .val (.int (((1 : Int32) <<< ((0 : Int32) &&& 31)) - (1 : Int32))), .val (.int (p1 ||| ((286331153 : Int32) &&& (((1 : Int32) <<< ((0 : Int32) &&& 31)) - (1 : Int32))))), .val (.int ((p1 ||| ((286331153 : Int32) &&& (((1 : Int32) <<< ((0 : Int32) &&& 31)) - (1 : Int32)))) &&& (((15 : Int32) <<< ((0 : Int32) &&& 31)) ^^^ (-1 : Int32)))), .val (.int (1 : Int32)), .val (.int (1 : Int32))]) rfl ?_
          show Steps p.tables e below (T8.setTop (mkF m 92 #[.val (.int p1), .val (.int p2), .val (.int (0 : Int32)), .val (.int (((1 : Int32) <<< ((0 : Int32) &&& 31)) - (1 : Int32))), .val (.int (p1 ||| ((286331153 : Int32) &&& (((1 : Int32) <<< ((0 : Int32) &&& 31)) - (1 : Int32))))), .val (.int ((p1 ||| ((286331153 : Int32) &&& (((1 : Int32) <<< ((0 : Int32) &&& 31)) - (1 : Int32)))) &&& (((15 : Int32) <<< ((0 : Int32) &&& 31)) ^^^ (-1 : Int32)))), .val (.int (1 : Int32)), .val (.int (1 : Int32))] [])) _
          refine XS.iload X8.here hx rfl (hb hby at_92) rfl ?_
          show Steps p.tables e below (T8.setTop (mkF m 94 #[.val (.int p1), .val (.int p2), .val (.int (0 : Int32)), .val (.int (((1 : Int32) <<< ((0 : Int32) &&& 31)) - (1 : Int32))), .val (.int (p1 ||| ((286331153 : Int32) &&& (((1 : Int32) <<< ((0 : Int32) &&& 31)) - (1 : Int32))))), .val (.int ((p1 ||| ((286331153 : Int32) &&& (((1 : Int32) <<< ((0 : Int32) &&& 31)) - (1 : Int32)))) &&& (((15 : Int32) <<< ((0 : Int32) &&& 31)) ^^^ (-1 : Int32)))), .val (.int (1 : Int32)), .val (.int (1 : Int32))] [(.int (1 : Int32))])) _
          refine XS.ifNo X8.here hx rfl (hb hby at_94) rfl ((if0 _ _).trans (feq (by decide : ¬ ((1 : Int32) = (0 : Int32)))).1) ?_
          show Steps p.tables e below (T8.setTop (mkF m 97 #[.val (.int p1), .val (.int p2), .val (.int (0 : Int32)), .val (.int (((1 : Int32) <<< ((0 : Int32) &&& 31)) - (1 : Int32))), .val (.int (p1 ||| ((286331153 : Int32) &&& (((1 : Int32) <<< ((0 : Int32) &&& 31)) - (1 : Int32))))), .val (.int ((p1 ||| ((286331153 : Int32) &&& (((1 : Int32) <<< ((0 : Int32) &&& 31)) - (1 : Int32)))) &&& (((15 : Int32) <<< ((0 : Int32) &&& 31)) ^^^ (-1 : Int32)))), .val (.int (1 : Int32)), .val (.int (1 : Int32))] [])) _
          refine XS.iload X8.here hx rfl (hb hby at_97) rfl ?_
          show Steps p.tables e below (T8.setTop (mkF m 99 #[.val (.int p1), .val (.int p2), .val (.int (0 : Int32)), .val (.int (((1 : Int32) <<< ((0 : Int32) &&& 31)) - (1 : Int32))), .val (.int (p1 ||| ((286331153 : Int32) &&& (((1 : Int32) <<< ((0 : Int32) &&& 31)) - (1 : Int32))))), .val (.int ((p1 ||| ((286331153 : Int32) &&& (((1 : Int32) <<< ((0 : Int32) &&& 31)) - (1 : Int32)))) &&& (((15 : Int32) <<< ((0 : Int32) &&& 31)) ^^^ (-1 : Int32)))), .val (.int (1 : Int32)), .val (.int (1 : Int32))] [(.int (1 : Int32))])) _
          refine XS.ifNo X8.here hx rfl (hb hby at_99) rfl ((if0 _ _).trans (feq (by decide : ¬ ((1 : Int32) = (0 : Int32)))).1) ?_
          show Steps p.tables e below (T8.setTop (mkF m 102 #[.val (.int p1), .val (.int p2), .val (.int (0 : Int32)), .val (.int (((1 : Int32) <<< ((0 : Int32) &&& 31)) - (1 : Int32))), .val (.int (p1 ||| ((286331153 : Int32) &&& (((1 : Int32) <<< ((0 : Int32) &&& 31)) - (1 : Int32))))), .val (.int ((p1 ||| ((286331153 : Int32) &&& (((1 : Int32) <<< ((0 : Int32) &&& 31)) - (1 : Int32)))) &&& (((15 : Int32) <<< ((0 : Int32) &&& 31)) ^^^ (-1 : Int32)))), .val (.int (1 : Int32)), .val (.int (1 : Int32))] [])) _
          refine XS.iconst X8.here hx rfl (hb hby at_102) ?_
          show Steps p.tables e below (T8.setTop (mkF m 103 #[.val (.int p1), .val (.int p2), .val (.int (0 : Int32)), .val (.int (((1 : Int32) <<< ((0 : Int32) &&& 31)) - (1 : Int32))), .val (.int (p1 ||| ((286331153 : Int32) &&& (((1 : Int32) <<< ((0 : Int32) &&& 31)) - (1 : Int32))))), .val (.int ((p1 ||| ((286331153 : Int32) &&& (((1 : Int32) <<< ((0 : Int32) &&& 31)) - (1 : Int32)))) &&& (((15 : Int32) <<< ((0 : Int32) &&& 31)) ^^^ (-1 : Int32)))), .val (.int (1 : Int32)), .val (.int (1 : Int32))] [(.int (1 : Int32))])) _
          refine XS.goto X8.here hx rfl (pc0 := 103) (pc' := 107) rfl (hb hby at_103) (by decide) (by decide) ?_
          show Steps p.tables e below (T8.setTop (mkF m 107 #[.val (.int p1), .val (.int p2), .val (.int (0 : Int32)), .val (.int (((1 : Int32) <<< ((0 : Int32) &&& 31)) - (1 : Int32))), .val (.int (p1 ||| ((286331153 : Int32) &&& (((1 : Int32) <<< ((0 : Int32) &&& 31)) - (1 : Int32))))), .val (.int ((p1 ||| ((286331153 : Int32) &&& (((1 : Int32) <<< ((0 : Int32) &&& 31)) - (1 : Int32)))) &&& (((15 : Int32) <<< ((0 : Int32) &&& 31)) ^^^ (-1 : Int32)))), .val (.int (1 : Int32)), .val (.int (1 : Int32))] [(.int (1 : Int32))])) _
          exact retN X8 hx (t := .boolean) Bd.returns (by simp) (hb hby at_107) hr
        · show own_Q0 Z p1 p2 h0 n0 _ T8.heap _
          rw [e8]
          exact ⟨(by rw [own_f0, if_pos hc1, if_pos hc2, if_pos hc3]), N9⟩
      ·
        obtain ⟨fs, hr, hrun, hended, hW, hsame⟩ := X8.leave (v := some (.int (0 : Int32))) (fun h => by rw [Bd.returns] at h; cases h)
        refine ⟨_, _, k10 _ ?_, hrun, hended, _, _, rfl, ?_, ⟨_, rfl⟩, hW, hsame.mono (by decide) (by decide)⟩
        · show Steps p.tables e below (T8.setTop (mkF m 82 #[.val (.int p1), .val (.int p2), .val (.int (0 : Int32)), .val (.int (((1 : Int32) <<< ((0 : Int32) &&& 31)) - (1 : Int32))), .val (.int (p1 ||| ((286331153 : Int32) &&& (((1 : Int32) <<< ((0 : Int32) &&& 31)) - (1 : Int32))))), .val (.int ((p1 ||| ((286331153 : Int32) &&& (((1 : Int32) <<< ((0 : Int32) &&& 31)) - (1 : Int32)))) &&& (((15 : Int32) <<< ((0 : Int32) &&& 31)) ^^^ (-1 : Int32)))), .val (.int (1 : Int32)), .unset] [(.int (0 : Int32)), (.int (own_f1 ((p1 ||| ((286331153 : Int32) &&& (((1 : Int32) <<< ((0 : Int32) &&& 31)) - (1 : Int32)))) &&& (((15 : Int32) <<< ((0 : Int32) &&& 31)) ^^^ (-1 : Int32)))))])) _
          refine XS.icmpYes X8.here hx rfl (pc0 := 82) (pc' := 89) rfl (hb hby at_82) rfl (feq hc3).2 (by decide) (by decide) ?_
          show Steps p.tables e below (T8.setTop (mkF m 89 #[.val (.int p1), .val (.int p2), .val (.int (0 : Int32)), .val (.int (((1 : Int32) <<< ((0 : Int32) &&& 31)) - (1 : Int32))), .val (.int (p1 ||| ((286331153 : Int32) &&& (((1 : Int32) <<< ((0 : Int32) &&& 31)) - (1 : Int32))))), .val (.int ((p1 ||| ((286331153 : Int32) &&& (((1 : Int32) <<< ((0 : Int32) &&& 31)) - (1 : Int32)))) &&& (((15 : Int32) <<< ((0 : Int32) &&& 31)) ^^^ (-1 : Int32)))), .val (.int (1 : Int32)), .unset] [])) _
          refine XS.iconst X8.here hx rfl (hb hby at_89) ?_
          show Steps p.tables e below (T8.setTop (mkF m 90 #[.val (.int p1), .val (.int p2), .val (.int (0 : Int32)), .val (.int (((1 : Int32) <<< ((0 : Int32) &&& 31)) - (1 : Int32))), .val (.int (p1 ||| ((286331153 : Int32) &&& (((1 : Int32) <<< ((0 : Int32) &&& 31)) - (1 : Int32))))), .val (.int ((p1 ||| ((286331153 : Int32) &&& (((1 : Int32) <<< ((0 : Int32) &&& 31)) - (1 : Int32)))) &&& (((15 : Int32) <<< ((0 : Int32) &&& 31)) ^^^ (-1 : Int32)))), .val (.int (1 : Int32)), .unset] [(.int (0 : Int32))])) _
          refine XS.istore X8.here hx rfl (hb hby at_90) rfl (l' := #[.val (.int p1), .val (.int p2), .val (.int (0 : Int32)), .val (.int (((1 : Int32) <<< ((0 : Int32) &&& 31)) - (1 : Int32))), .val (.int (p1 ||| ((286331153 : Int32) &&& (((1 : Int32) <<< ((0 : Int32) &&& 31)) - (1 : Int32))))), .val (.int ((p1 ||| ((286331153 : Int32) &&& (((1 : Int32) <<< ((0 : Int32) &&& 31)) - (1 : Int32)))) &&& (((15 : Int32) <<< ((0 : Int32) &&& 31)) ^^^ (-1 : Int32)))), .val (.int (1 : Int32)), .val (.int (0 : Int32))]) rfl ?_
          show Steps p.tables e below (T8.setTop (mkF m 92 #[.val (.int p1), .val (.int p2), .val (.int (0 : Int32)), .val (.int (((1 : Int32) <<< ((0 : Int32) &&& 31)) - (1 : Int32))), .val (.int (p1 ||| ((286331153 : Int32) &&& (((1 : Int32) <<< ((0 : Int32) &&& 31)) - (1 : Int32))))), .val (.int ((p1 ||| ((286331153 : Int32) &&& (((1 : Int32) <<< ((0 : Int32) &&& 31)) - (1 : Int32)))) &&& (((15 : Int32) <<< ((0 : Int32) &&& 31)) ^^^ (-1 : Int32)))), .val (.int (1 : Int32)), .val (.int (0 : Int32))] [])) _
          refine XS.iload X8.here hx rfl (hb hby at_92) rfl ?_
          show Steps p.tables e below (T8.setTop (mkF m 94 #[.val (.int p1), .val (.int p2), .val (.int (0 : Int32)), .val (.int (((1 : Int32) <<< ((0 : Int32) &&& 31)) - (1 : Int32))), .val (.int (p1 ||| ((286331153 : Int32) &&& (((1 : Int32) <<< ((0 : Int32) &&& 31)) - (1 : Int32))))), .val (.int ((p1 ||| ((286331153 : Int32) &&& (((1 : Int32) <<< ((0 : Int32) &&& 31)) - (1 : Int32)))) &&& (((15 : Int32) <<< ((0 : Int32) &&& 31)) ^^^ (-1 : Int32)))), .val (.int (1 : Int32)), .val (.int (0 : Int32))] [(.int (1 : Int32))])) _
          refine XS.ifNo X8.here hx rfl (hb hby at_94) rfl ((if0 _ _).trans (feq (by decide : ¬ ((1 : Int32) = (0 : Int32)))).1) ?_
          show Steps p.tables e below (T8.setTop (mkF m 97 #[.val (.int p1), .val (.int p2), .val (.int (0 : Int32)), .val (.int (((1 : Int32) <<< ((0 : Int32) &&& 31)) - (1 : Int32))), .val (.int (p1 ||| ((286331153 : Int32) &&& (((1 : Int32) <<< ((0 : Int32) &&& 31)) - (1 : Int32))))), .val (.int ((p1 ||| ((286331153 : Int32) &&& (((1 : Int32) <<< ((0 : Int32) &&& 31)) - (1 : Int32)))) &&& (((15 : Int32) <<< ((0 : Int32) &&& 31)) ^^^ (-1 : Int32)))), .val (.int (1 : Int32)), .val (.int (0 : Int32))] [])) _
          refine XS.iload X8.here hx rfl (hb hby at_97) rfl ?_
          show Steps p.tables e below (T8.setTop (mkF m 99 #[.val (.int p1), .val (.int p2), .val (.int (0 : Int32)), .val (.int (((1 : Int32) <<< ((0 : Int32) &&& 31)) - (1 : Int32))), .val (.int (p1 ||| ((286331153 : Int32) &&& (((1 : Int32) <<< ((0 : Int32) &&& 31)) - (1 : Int32))))), .val (.int ((p1 ||| ((286331153 : Int32) &&& (((1 : Int32) <<< ((0 : Int32) &&& 31)) - (1 : Int32)))) &&& (((15 : Int32) <<< ((0 : Int32) &&& 31)) ^^^ (-1 : Int32)))), .val (.int (1 : Int32)), .val (.int (0 : Int32))] [(.int (0 : Int32))])) _
          refine XS.ifYes X8.here hx rfl (pc0 := 99) (pc' := 106) rfl (hb hby at_99) rfl ((if0 _ _).trans (teq (by decide : (0 : Int32) = (0 : Int32))).1) (by decide) (by decide) ?_
          show Steps p.tables e below (T8.setTop (mkF m 106 #[.val (.int p1), .val (.int p2), .val (.int (0 : Int32)), .val (.int (((1 : Int32) <<< ((0 : Int32) &&& 31)) - (1 : Int32))), .val (.int (p1 ||| ((286331153 : Int32) &&& (((1 : Int32) <<< ((0 : Int32) &&& 31)) - (1 : Int32))))), .val (.int ((p1 ||| ((286331153 : Int32) &&& (((1 : Int32) <<< ((0 : Int32) &&& 31)) - (1 : Int32)))) &&& (((15 : Int32) <<< ((0 : Int32) &&& 31)) ^^^ (-1 : Int32)))), .val (.int (1 : Int32)), .val (.int (0 : Int32))] [])) _
          refine XS.iconst X8.here hx rfl (hb hby at_106) ?_
          show Steps p.tables e below (T8.setTop (mkF m 107 #[.val (.int p1), .val (.int p2), .val (.int (0 : Int32)), .val (.int (((1 : Int32) <<< ((0 : Int32) &&& 31)) - (1 : Int32))), .val (.int (p1 ||| ((286331153 : Int32) &&& (((1 : Int32) <<< ((0 : Int32) &&& 31)) - (1 : Int32))))), .val (.int ((p1 ||| ((286331153 : Int32) &&& (((1 : Int32) <<< ((0 : Int32) &&& 31)) - (1 : Int32)))) &&& (((15 : Int32) <<< ((0 : Int32) &&& 31)) ^^^ (-1 : Int32)))), .val (.int (1 : Int32)), .val (.int (0 : Int32))] [(.int (0 : Int32))])) _
          exact retN X8 hx (t := .boolean) Bd.returns (by simp) (hb hby at_107) hr
        · show own_Q0 Z p1 p2 h0 n0 _ T8.heap _
          rw [e8]
          exact ⟨(by rw [own_f0, if_pos hc1, if_pos hc2, if_neg hc3]), N9⟩
    ·
      obtain ⟨v11, _, ⟨T11, L11, k11, n11⟩, -, X11, ⟨Lc11, hQ11, l11, y11, z11⟩, st11⟩ := Jvm.LawKit.callS X5 hx (y := (⟨"com/example/kerb/kerb/txn/SoleLocks", "length", "(I)I"⟩ : MethodName)) hown (mvT hZ (hw _ (List.mem_of_getElem? (i := 2) rfl))) (mvT hZ (hw _ (List.mem_of_getElem? (i := 3) rfl))) (mvT hZ (hw _ (List.mem_of_getElem? (i := 4) rfl))) (mvT hZ (hw _ (List.mem_of_getElem? (i := 5) rfl))) (by decide) (backOf (W := 0) (own_rm1 l Z a0 hw [] ((p1 ||| ((286331153 : Int32) &&& (((1 : Int32) <<< ((0 : Int32) &&& 31)) - (1 : Int32)))) &&& (((15 : Int32) <<< ((0 : Int32) &&& 31)) ^^^ (-1 : Int32))) h0 n0 Z0) hZ (hw _ (List.mem_of_getElem? (i := 5) rfl)) (hw _ (List.mem_of_getElem? (i := 4) rfl)) (by decide) (by decide)) (g := (mkF m 78 #[.val (.int p1), .val (.int p2), .val (.int (0 : Int32)), .val (.int (((1 : Int32) <<< ((0 : Int32) &&& 31)) - (1 : Int32))), .val (.int (p1 ||| ((286331153 : Int32) &&& (((1 : Int32) <<< ((0 : Int32) &&& 31)) - (1 : Int32))))), .val (.int ((p1 ||| ((286331153 : Int32) &&& (((1 : Int32) <<< ((0 : Int32) &&& 31)) - (1 : Int32)))) &&& (((15 : Int32) <<< ((0 : Int32) &&& 31)) ^^^ (-1 : Int32)))), .val (.int (0 : Int32)), .unset] [(.int ((p1 ||| ((286331153 : Int32) &&& (((1 : Int32) <<< ((0 : Int32) &&& 31)) - (1 : Int32)))) &&& (((15 : Int32) <<< ((0 : Int32) &&& 31)) ^^^ (-1 : Int32))))])) rfl (by rw [hml]; rfl) (argsL := [(.int ((p1 ||| ((286331153 : Int32) &&& (((1 : Int32) <<< ((0 : Int32) &&& 31)) - (1 : Int32)))) &&& (((15 : Int32) <<< ((0 : Int32) &&& 31)) ^^^ (-1 : Int32))))]) (rest := []) (lenOf own_pd69 rfl) rfl (by show 2 * 0 + _ ≤ _; exact Nat.le_of_eq rfl) (hb hby at_78) (fun _ _ => ⟨rfl, e5, (by decide : 0 + 0 ≤ _), (by decide : 0 + 0 ≤ _)⟩)
      dsimp only [Pt.U, Pt.locs, Pt.cells, Pt.slots] at X11 l11 y11 z11 st11 hQ11
      subst l11 y11 z11
      obtain ⟨rfl, N11q, e11⟩ := hQ11
      have N12 := Fr.app N6 N11q
      have k13 : ∀ t, Steps p.tables e below (T11.setTop (mkF m 82 #[.val (.int p1), .val (.int p2), .val (.int (0 : Int32)), .val (.int (((1 : Int32) <<< ((0 : Int32) &&& 31)) - (1 : Int32))), .val (.int (p1 ||| ((286331153 : Int32) &&& (((1 : Int32) <<< ((0 : Int32) &&& 31)) - (1 : Int32))))), .val (.int ((p1 ||| ((286331153 : Int32) &&& (((1 : Int32) <<< ((0 : Int32) &&& 31)) - (1 : Int32)))) &&& (((15 : Int32) <<< ((0 : Int32) &&& 31)) ^^^ (-1 : Int32)))), .val (.int (0 : Int32)), .unset] [(.int (0 : Int32)), (.int (own_f1 ((p1 ||| ((286331153 : Int32) &&& (((1 : Int32) <<< ((0 : Int32) &&& 31)) - (1 : Int32)))) &&& (((15 : Int32) <<< ((0 : Int32) &&& 31)) ^^^ (-1 : Int32)))))])) t → Steps p.tables e below (s₁.setTop (entryFrame m #[(.int p1), (.int p2)] maxLocals)) t := by
        intro t kt
        refine k7 t ?_
        show Steps p.tables e below (T5.setTop (mkF m 66 #[.val (.int p1), .val (.int p2), .val (.int (0 : Int32)), .val (.int (((1 : Int32) <<< ((0 : Int32) &&& 31)) - (1 : Int32))), .val (.int (p1 ||| ((286331153 : Int32) &&& (((1 : Int32) <<< ((0 : Int32) &&& 31)) - (1 : Int32))))), .val (.int ((p1 ||| ((286331153 : Int32) &&& (((1 : Int32) <<< ((0 : Int32) &&& 31)) - (1 : Int32)))) &&& (((15 : Int32) <<< ((0 : Int32) &&& 31)) ^^^ (-1 : Int32)))), .unset, .unset] [(.int (own_f2 p1)), (.int (own_f1 p1))])) _
        refine XS.icmpYes X5.here hx rfl (pc0 := 66) (pc' := 73) rfl (hb hby at_66) rfl (feq hc2).2 (by decide) (by decide) ?_
        show Steps p.tables e below (T5.setTop (mkF m 73 #[.val (.int p1), .val (.int p2), .val (.int (0 : Int32)), .val (.int (((1 : Int32) <<< ((0 : Int32) &&& 31)) - (1 : Int32))), .val (.int (p1 ||| ((286331153 : Int32) &&& (((1 : Int32) <<< ((0 : Int32) &&& 31)) - (1 : Int32))))), .val (.int ((p1 ||| ((286331153 : Int32) &&& (((1 : Int32) <<< ((0 : Int32) &&& 31)) - (1 : Int32)))) &&& (((15 : Int32) <<< ((0 : Int32) &&& 31)) ^^^ (-1 : Int32)))), .unset, .unset] [])) _
        refine XS.iconst X5.here hx rfl (hb hby at_73) ?_
        show Steps p.tables e below (T5.setTop (mkF m 74 #[.val (.int p1), .val (.int p2), .val (.int (0 : Int32)), .val (.int (((1 : Int32) <<< ((0 : Int32) &&& 31)) - (1 : Int32))), .val (.int (p1 ||| ((286331153 : Int32) &&& (((1 : Int32) <<< ((0 : Int32) &&& 31)) - (1 : Int32))))), .val (.int ((p1 ||| ((286331153 : Int32) &&& (((1 : Int32) <<< ((0 : Int32) &&& 31)) - (1 : Int32)))) &&& (((15 : Int32) <<< ((0 : Int32) &&& 31)) ^^^ (-1 : Int32)))), .unset, .unset] [(.int (0 : Int32))])) _
        refine XS.istore X5.here hx rfl (hb hby at_74) rfl (l' := #[.val (.int p1), .val (.int p2), .val (.int (0 : Int32)), .val (.int (((1 : Int32) <<< ((0 : Int32) &&& 31)) - (1 : Int32))), .val (.int (p1 ||| ((286331153 : Int32) &&& (((1 : Int32) <<< ((0 : Int32) &&& 31)) - (1 : Int32))))), .val (.int ((p1 ||| ((286331153 : Int32) &&& (((1 : Int32) <<< ((0 : Int32) &&& 31)) - (1 : Int32)))) &&& (((15 : Int32) <<< ((0 : Int32) &&& 31)) ^^^ (-1 : Int32)))), .val (.int (0 : Int32)), .unset]) rfl ?_
        show Steps p.tables e below (T5.setTop (mkF m 76 #[.val (.int p1), .val (.int p2), .val (.int (0 : Int32)), .val (.int (((1 : Int32) <<< ((0 : Int32) &&& 31)) - (1 : Int32))), .val (.int (p1 ||| ((286331153 : Int32) &&& (((1 : Int32) <<< ((0 : Int32) &&& 31)) - (1 : Int32))))), .val (.int ((p1 ||| ((286331153 : Int32) &&& (((1 : Int32) <<< ((0 : Int32) &&& 31)) - (1 : Int32)))) &&& (((15 : Int32) <<< ((0 : Int32) &&& 31)) ^^^ (-1 : Int32)))), .val (.int (0 : Int32)), .unset] [])) _
        refine XS.iload X5.here hx rfl (hb hby at_76) rfl ?_
        show Steps p.tables e below (T5.setTop (mkF m 78 #[.val (.int p1), .val (.int p2), .val (.int (0 : Int32)), .val (.int (((1 : Int32) <<< ((0 : Int32) &&& 31)) - (1 : Int32))), .val (.int (p1 ||| ((286331153 : Int32) &&& (((1 : Int32) <<< ((0 : Int32) &&& 31)) - (1 : Int32))))), .val (.int ((p1 ||| ((286331153 : Int32) &&& (((1 : Int32) <<< ((0 : Int32) &&& 31)) - (1 : Int32)))) &&& (((15 : Int32) <<< ((0 : Int32) &&& 31)) ^^^ (-1 : Int32)))), .val (.int (0 : Int32)), .unset] [(.int ((p1 ||| ((286331153 : Int32) &&& (((1 : Int32) <<< ((0 : Int32) &&& 31)) - (1 : Int32)))) &&& (((15 : Int32) <<< ((0 : Int32) &&& 31)) ^^^ (-1 : Int32))))])) _
        refine st11 _ ?_
        show Steps p.tables e below (T11.setTop (mkF m 81 #[.val (.int p1), .val (.int p2), .val (.int (0 : Int32)), .val (.int (((1 : Int32) <<< ((0 : Int32) &&& 31)) - (1 : Int32))), .val (.int (p1 ||| ((286331153 : Int32) &&& (((1 : Int32) <<< ((0 : Int32) &&& 31)) - (1 : Int32))))), .val (.int ((p1 ||| ((286331153 : Int32) &&& (((1 : Int32) <<< ((0 : Int32) &&& 31)) - (1 : Int32)))) &&& (((15 : Int32) <<< ((0 : Int32) &&& 31)) ^^^ (-1 : Int32)))), .val (.int (0 : Int32)), .unset] [(.int (own_f1 ((p1 ||| ((286331153 : Int32) &&& (((1 : Int32) <<< ((0 : Int32) &&& 31)) - (1 : Int32)))) &&& (((15 : Int32) <<< ((0 : Int32) &&& 31)) ^^^ (-1 : Int32)))))])) _
        refine XS.iloadN X11.here hx rfl (hb hby at_81) rfl ?_
        exact kt
      by_cases hc4 : (own_f1 ((p1 ||| ((286331153 : Int32) &&& (((1 : Int32) <<< ((0 : Int32) &&& 31)) - (1 : Int32)))) &&& (((15 : Int32) <<< ((0 : Int32) &&& 31)) ^^^ (-1 : Int32)))) = (0 : Int32)
      ·
        obtain ⟨fs, hr, hrun, hended, hW, hsame⟩ := X11.leave (v := some (.int (0 : Int32))) (fun h => by rw [Bd.returns] at h; cases h)
        refine ⟨_, _, k13 _ ?_, hrun, hended, _, _, rfl, ?_, ⟨_, rfl⟩, hW, hsame.mono (by decide) (by decide)⟩
        · show Steps p.tables e below (T11.setTop (mkF m 82 #[.val (.int p1), .val (.int p2), .val (.int (0 : Int32)), .val (.int (((1 : Int32) <<< ((0 : Int32) &&& 31)) - (1 : Int32))), .val (.int (p1 ||| ((286331153 : Int32) &&& (((1 : Int32) <<< ((0 : Int32) &&& 31)) - (1 : Int32))))), .val (.int ((p1 ||| ((286331153 : Int32) &&& (((1 : Int32) <<< ((0 : Int32) &&& 31)) - (1 : Int32)))) &&& (((15 : Int32) <<< ((0 : Int32) &&& 31)) ^^^ (-1 : Int32)))), .val (.int (0 : Int32)), .unset] [(.int (0 : Int32)), (.int (own_f1 ((p1 ||| ((286331153 : Int32) &&& (((1 : Int32) <<< ((0 : Int32) &&& 31)) - (1 : Int32)))) &&& (((15 : Int32) <<< ((0 : Int32) &&& 31)) ^^^ (-1 : Int32)))))])) _
          refine XS.icmpNo X11.here hx rfl (hb hby at_82) rfl (teq hc4).2 ?_
          show Steps p.tables e below (T11.setTop (mkF m 85 #[.val (.int p1), .val (.int p2), .val (.int (0 : Int32)), .val (.int (((1 : Int32) <<< ((0 : Int32) &&& 31)) - (1 : Int32))), .val (.int (p1 ||| ((286331153 : Int32) &&& (((1 : Int32) <<< ((0 : Int32) &&& 31)) - (1 : Int32))))), .val (.int ((p1 ||| ((286331153 : Int32) &&& (((1 : Int32) <<< ((0 : Int32) &&& 31)) - (1 : Int32)))) &&& (((15 : Int32) <<< ((0 : Int32) &&& 31)) ^^^ (-1 : Int32)))), .val (.int (0 : Int32)), .unset] [])) _
          refine XS.iconst X11.here hx rfl (hb hby at_85) ?_
          show Steps p.tables e below (T11.setTop (mkF m 86 #[.val (.int p1), .val (.int p2), .val (.int (0 : Int32)), .val (.int (((1 : Int32) <<< ((0 : Int32) &&& 31)) - (1 : Int32))), .val (.int (p1 ||| ((286331153 : Int32) &&& (((1 : Int32) <<< ((0 : Int32) &&& 31)) - (1 : Int32))))), .val (.int ((p1 ||| ((286331153 : Int32) &&& (((1 : Int32) <<< ((0 : Int32) &&& 31)) - (1 : Int32)))) &&& (((15 : Int32) <<< ((0 : Int32) &&& 31)) ^^^ (-1 : Int32)))), .val (.int (0 : Int32)), .unset] [(.int (1 : Int32))])) _
          refine XS.goto X11.here hx rfl (pc0 := 86) (pc' := 90) rfl (hb hby at_86) (by decide) (by decide) ?_
          show Steps p.tables e below (T11.setTop (mkF m 90 #[.val (.int p1), .val (.int p2), .val (.int (0 : Int32)), .val (.int (((1 : Int32) <<< ((0 : Int32) &&& 31)) - (1 : Int32))), .val (.int (p1 ||| ((286331153 : Int32) &&& (((1 : Int32) <<< ((0 : Int32) &&& 31)) - (1 : Int32))))), .val (.int ((p1 ||| ((286331153 : Int32) &&& (((1 : Int32) <<< ((0 : Int32) &&& 31)) - (1 : Int32)))) &&& (((15 : Int32) <<< ((0 : Int32) &&& 31)) ^^^ (-1 : Int32)))), .val (.int (0 : Int32)), .unset] [(.int (1 : Int32))])) _
          refine XS.istore X11.here hx rfl (hb hby at_90) rfl (l' := #[.val (.int p1), .val (.int p2), .val (.int (0 : Int32)), .val (.int (((1 : Int32) <<< ((0 : Int32) &&& 31)) - (1 : Int32))), .val (.int (p1 ||| ((286331153 : Int32) &&& (((1 : Int32) <<< ((0 : Int32) &&& 31)) - (1 : Int32))))), .val (.int ((p1 ||| ((286331153 : Int32) &&& (((1 : Int32) <<< ((0 : Int32) &&& 31)) - (1 : Int32)))) &&& (((15 : Int32) <<< ((0 : Int32) &&& 31)) ^^^ (-1 : Int32)))), .val (.int (0 : Int32)), .val (.int (1 : Int32))]) rfl ?_
          show Steps p.tables e below (T11.setTop (mkF m 92 #[.val (.int p1), .val (.int p2), .val (.int (0 : Int32)), .val (.int (((1 : Int32) <<< ((0 : Int32) &&& 31)) - (1 : Int32))), .val (.int (p1 ||| ((286331153 : Int32) &&& (((1 : Int32) <<< ((0 : Int32) &&& 31)) - (1 : Int32))))), .val (.int ((p1 ||| ((286331153 : Int32) &&& (((1 : Int32) <<< ((0 : Int32) &&& 31)) - (1 : Int32)))) &&& (((15 : Int32) <<< ((0 : Int32) &&& 31)) ^^^ (-1 : Int32)))), .val (.int (0 : Int32)), .val (.int (1 : Int32))] [])) _
          refine XS.iload X11.here hx rfl (hb hby at_92) rfl ?_
          show Steps p.tables e below (T11.setTop (mkF m 94 #[.val (.int p1), .val (.int p2), .val (.int (0 : Int32)), .val (.int (((1 : Int32) <<< ((0 : Int32) &&& 31)) - (1 : Int32))), .val (.int (p1 ||| ((286331153 : Int32) &&& (((1 : Int32) <<< ((0 : Int32) &&& 31)) - (1 : Int32))))), .val (.int ((p1 ||| ((286331153 : Int32) &&& (((1 : Int32) <<< ((0 : Int32) &&& 31)) - (1 : Int32)))) &&& (((15 : Int32) <<< ((0 : Int32) &&& 31)) ^^^ (-1 : Int32)))), .val (.int (0 : Int32)), .val (.int (1 : Int32))] [(.int (0 : Int32))])) _
          refine XS.ifYes X11.here hx rfl (pc0 := 94) (pc' := 106) rfl (hb hby at_94) rfl ((if0 _ _).trans (teq (by decide : (0 : Int32) = (0 : Int32))).1) (by decide) (by decide) ?_
          show Steps p.tables e below (T11.setTop (mkF m 106 #[.val (.int p1), .val (.int p2), .val (.int (0 : Int32)), .val (.int (((1 : Int32) <<< ((0 : Int32) &&& 31)) - (1 : Int32))), .val (.int (p1 ||| ((286331153 : Int32) &&& (((1 : Int32) <<< ((0 : Int32) &&& 31)) - (1 : Int32))))), .val (.int ((p1 ||| ((286331153 : Int32) &&& (((1 : Int32) <<< ((0 : Int32) &&& 31)) - (1 : Int32)))) &&& (((15 : Int32) <<< ((0 : Int32) &&& 31)) ^^^ (-1 : Int32)))), .val (.int (0 : Int32)), .val (.int (1 : Int32))] [])) _
          refine XS.iconst X11.here hx rfl (hb hby at_106) ?_
          show Steps p.tables e below (T11.setTop (mkF m 107 #[.val (.int p1), .val (.int p2), .val (.int (0 : Int32)), .val (.int (((1 : Int32) <<< ((0 : Int32) &&& 31)) - (1 : Int32))), .val (.int (p1 ||| ((286331153 : Int32) &&& (((1 : Int32) <<< ((0 : Int32) &&& 31)) - (1 : Int32))))), .val (.int ((p1 ||| ((286331153 : Int32) &&& (((1 : Int32) <<< ((0 : Int32) &&& 31)) - (1 : Int32)))) &&& (((15 : Int32) <<< ((0 : Int32) &&& 31)) ^^^ (-1 : Int32)))), .val (.int (0 : Int32)), .val (.int (1 : Int32))] [(.int (0 : Int32))])) _
          exact retN X11 hx (t := .boolean) Bd.returns (by simp) (hb hby at_107) hr
        · show own_Q0 Z p1 p2 h0 n0 _ T11.heap _
          rw [e11]
          exact ⟨(by rw [own_f0, if_pos hc1, if_neg hc2, if_pos hc4]), N12⟩
      ·
        obtain ⟨fs, hr, hrun, hended, hW, hsame⟩ := X11.leave (v := some (.int (0 : Int32))) (fun h => by rw [Bd.returns] at h; cases h)
        refine ⟨_, _, k13 _ ?_, hrun, hended, _, _, rfl, ?_, ⟨_, rfl⟩, hW, hsame.mono (by decide) (by decide)⟩
        · show Steps p.tables e below (T11.setTop (mkF m 82 #[.val (.int p1), .val (.int p2), .val (.int (0 : Int32)), .val (.int (((1 : Int32) <<< ((0 : Int32) &&& 31)) - (1 : Int32))), .val (.int (p1 ||| ((286331153 : Int32) &&& (((1 : Int32) <<< ((0 : Int32) &&& 31)) - (1 : Int32))))), .val (.int ((p1 ||| ((286331153 : Int32) &&& (((1 : Int32) <<< ((0 : Int32) &&& 31)) - (1 : Int32)))) &&& (((15 : Int32) <<< ((0 : Int32) &&& 31)) ^^^ (-1 : Int32)))), .val (.int (0 : Int32)), .unset] [(.int (0 : Int32)), (.int (own_f1 ((p1 ||| ((286331153 : Int32) &&& (((1 : Int32) <<< ((0 : Int32) &&& 31)) - (1 : Int32)))) &&& (((15 : Int32) <<< ((0 : Int32) &&& 31)) ^^^ (-1 : Int32)))))])) _
          refine XS.icmpYes X11.here hx rfl (pc0 := 82) (pc' := 89) rfl (hb hby at_82) rfl (feq hc4).2 (by decide) (by decide) ?_
          show Steps p.tables e below (T11.setTop (mkF m 89 #[.val (.int p1), .val (.int p2), .val (.int (0 : Int32)), .val (.int (((1 : Int32) <<< ((0 : Int32) &&& 31)) - (1 : Int32))), .val (.int (p1 ||| ((286331153 : Int32) &&& (((1 : Int32) <<< ((0 : Int32) &&& 31)) - (1 : Int32))))), .val (.int ((p1 ||| ((286331153 : Int32) &&& (((1 : Int32) <<< ((0 : Int32) &&& 31)) - (1 : Int32)))) &&& (((15 : Int32) <<< ((0 : Int32) &&& 31)) ^^^ (-1 : Int32)))), .val (.int (0 : Int32)), .unset] [])) _
          refine XS.iconst X11.here hx rfl (hb hby at_89) ?_
          show Steps p.tables e below (T11.setTop (mkF m 90 #[.val (.int p1), .val (.int p2), .val (.int (0 : Int32)), .val (.int (((1 : Int32) <<< ((0 : Int32) &&& 31)) - (1 : Int32))), .val (.int (p1 ||| ((286331153 : Int32) &&& (((1 : Int32) <<< ((0 : Int32) &&& 31)) - (1 : Int32))))), .val (.int ((p1 ||| ((286331153 : Int32) &&& (((1 : Int32) <<< ((0 : Int32) &&& 31)) - (1 : Int32)))) &&& (((15 : Int32) <<< ((0 : Int32) &&& 31)) ^^^ (-1 : Int32)))), .val (.int (0 : Int32)), .unset] [(.int (0 : Int32))])) _
          refine XS.istore X11.here hx rfl (hb hby at_90) rfl (l' := #[.val (.int p1), .val (.int p2), .val (.int (0 : Int32)), .val (.int (((1 : Int32) <<< ((0 : Int32) &&& 31)) - (1 : Int32))), .val (.int (p1 ||| ((286331153 : Int32) &&& (((1 : Int32) <<< ((0 : Int32) &&& 31)) - (1 : Int32))))), .val (.int ((p1 ||| ((286331153 : Int32) &&& (((1 : Int32) <<< ((0 : Int32) &&& 31)) - (1 : Int32)))) &&& (((15 : Int32) <<< ((0 : Int32) &&& 31)) ^^^ (-1 : Int32)))), .val (.int (0 : Int32)), .val (.int (0 : Int32))]) rfl ?_
          show Steps p.tables e below (T11.setTop (mkF m 92 #[.val (.int p1), .val (.int p2), .val (.int (0 : Int32)), .val (.int (((1 : Int32) <<< ((0 : Int32) &&& 31)) - (1 : Int32))), .val (.int (p1 ||| ((286331153 : Int32) &&& (((1 : Int32) <<< ((0 : Int32) &&& 31)) - (1 : Int32))))), .val (.int ((p1 ||| ((286331153 : Int32) &&& (((1 : Int32) <<< ((0 : Int32) &&& 31)) - (1 : Int32)))) &&& (((15 : Int32) <<< ((0 : Int32) &&& 31)) ^^^ (-1 : Int32)))), .val (.int (0 : Int32)), .val (.int (0 : Int32))] [])) _
          refine XS.iload X11.here hx rfl (hb hby at_92) rfl ?_
          show Steps p.tables e below (T11.setTop (mkF m 94 #[.val (.int p1), .val (.int p2), .val (.int (0 : Int32)), .val (.int (((1 : Int32) <<< ((0 : Int32) &&& 31)) - (1 : Int32))), .val (.int (p1 ||| ((286331153 : Int32) &&& (((1 : Int32) <<< ((0 : Int32) &&& 31)) - (1 : Int32))))), .val (.int ((p1 ||| ((286331153 : Int32) &&& (((1 : Int32) <<< ((0 : Int32) &&& 31)) - (1 : Int32)))) &&& (((15 : Int32) <<< ((0 : Int32) &&& 31)) ^^^ (-1 : Int32)))), .val (.int (0 : Int32)), .val (.int (0 : Int32))] [(.int (0 : Int32))])) _
          refine XS.ifYes X11.here hx rfl (pc0 := 94) (pc' := 106) rfl (hb hby at_94) rfl ((if0 _ _).trans (teq (by decide : (0 : Int32) = (0 : Int32))).1) (by decide) (by decide) ?_
          show Steps p.tables e below (T11.setTop (mkF m 106 #[.val (.int p1), .val (.int p2), .val (.int (0 : Int32)), .val (.int (((1 : Int32) <<< ((0 : Int32) &&& 31)) - (1 : Int32))), .val (.int (p1 ||| ((286331153 : Int32) &&& (((1 : Int32) <<< ((0 : Int32) &&& 31)) - (1 : Int32))))), .val (.int ((p1 ||| ((286331153 : Int32) &&& (((1 : Int32) <<< ((0 : Int32) &&& 31)) - (1 : Int32)))) &&& (((15 : Int32) <<< ((0 : Int32) &&& 31)) ^^^ (-1 : Int32)))), .val (.int (0 : Int32)), .val (.int (0 : Int32))] [])) _
          refine XS.iconst X11.here hx rfl (hb hby at_106) ?_
          show Steps p.tables e below (T11.setTop (mkF m 107 #[.val (.int p1), .val (.int p2), .val (.int (0 : Int32)), .val (.int (((1 : Int32) <<< ((0 : Int32) &&& 31)) - (1 : Int32))), .val (.int (p1 ||| ((286331153 : Int32) &&& (((1 : Int32) <<< ((0 : Int32) &&& 31)) - (1 : Int32))))), .val (.int ((p1 ||| ((286331153 : Int32) &&& (((1 : Int32) <<< ((0 : Int32) &&& 31)) - (1 : Int32)))) &&& (((15 : Int32) <<< ((0 : Int32) &&& 31)) ^^^ (-1 : Int32)))), .val (.int (0 : Int32)), .val (.int (0 : Int32))] [(.int (0 : Int32))])) _
          exact retN X11 hx (t := .boolean) Bd.returns (by simp) (hb hby at_107) hr
        · show own_Q0 Z p1 p2 h0 n0 _ T11.heap _
          rw [e11]
          exact ⟨(by rw [own_f0, if_pos hc1, if_neg hc2, if_neg hc4]), N12⟩
  ·
    by_cases hc5 : ((p2 &&& (2147483647 : Int32)) - ((p2 &&& (2147483647 : Int32)) / (9 : Int32)) * (9 : Int32)) = (1 : Int32)
    ·
      have k14 : ∀ t, Steps p.tables e below (s₁.setTop (mkF m 7 #[.val (.int p1), .val (.int p2), .unset, .unset, .unset, .unset, .unset, .unset] [(.int (1 : Int32))])) t → Steps p.tables e below (s₁.setTop (entryFrame m #[(.int p1), (.int p2)] maxLocals)) t := by
        intro t kt
        refine k1 t ?_
        rw [hc5]
        exact kt
      obtain ⟨v15, _, ⟨T15, L15, k15, n15⟩, -, X15, ⟨Lc15, hQ15, l15, y15, z15⟩, st15⟩ := Jvm.LawKit.callS X0 hx (y := (⟨"com/example/kerb/kerb/txn/SoleLocks", "length", "(I)I"⟩ : MethodName)) hown (mvT hZ (hw _ (List.mem_of_getElem? (i := 2) rfl))) (mvT hZ (hw _ (List.mem_of_getElem? (i := 3) rfl))) (mvT hZ (hw _ (List.mem_of_getElem? (i := 4) rfl))) (mvT hZ (hw _ (List.mem_of_getElem? (i := 5) rfl))) (by decide) (backOf (W := 0) (own_rm1 l Z a0 hw [] p1 h0 n0 Z0) hZ (hw _ (List.mem_of_getElem? (i := 5) rfl)) (hw _ (List.mem_of_getElem? (i := 4) rfl)) (by decide) (by decide)) (g := (mkF m 59 #[.val (.int p1), .val (.int p2), .val (.int (1 : Int32)), .val (.int (((1 : Int32) <<< ((4 : Int32) &&& 31)) - (1 : Int32))), .val (.int (p1 ||| ((286331153 : Int32) &&& (((1 : Int32) <<< ((4 : Int32) &&& 31)) - (1 : Int32))))), .val (.int ((p1 ||| ((286331153 : Int32) &&& (((1 : Int32) <<< ((4 : Int32) &&& 31)) - (1 : Int32)))) &&& (((15 : Int32) <<< ((4 : Int32) &&& 31)) ^^^ (-1 : Int32)))), .unset, .unset] [(.int p1)])) rfl (by rw [hml]; rfl) (argsL := [(.int p1)]) (rest := []) (lenOf own_pd69 rfl) rfl (by show 2 * 0 + _ ≤ _; exact Nat.le_of_eq rfl) (hb hby at_59) (fun _ _ => ⟨rfl, e0, (by decide : 0 + 0 ≤ _), (by decide : 0 + 0 ≤ _)⟩)
      dsimp only [Pt.U, Pt.locs, Pt.cells, Pt.slots] at X15 l15 y15 z15 st15 hQ15
      subst l15 y15 z15
      obtain ⟨rfl, N15q, e15⟩ := hQ15
      have N16 := Fr.app N0 N15q
      obtain ⟨v17, _, ⟨T17, L17, k17, n17⟩, -, X17, ⟨Lc17, hQ17, l17, y17, z17⟩, st17⟩ := Jvm.LawKit.callS X15 hx (y := (⟨"com/example/kerb/kerb/txn/SoleLocksLengthPinLaw", "ref", "(I)I"⟩ : MethodName)) hown (mvT hZ (hw _ (List.mem_of_getElem? (i := 6) rfl))) (mvT hZ (hw _ (List.mem_of_getElem? (i := 7) rfl))) (mvT hZ (hw _ (List.mem_of_getElem? (i := 8) rfl))) (mvT hZ (hw _ (List.mem_of_getElem? (i := 9) rfl))) (by decide) (backOf (W := 1) (own_rm2 l Z a0 hw [] p1 h0 n0 Z0) hZ (hw _ (List.mem_of_getElem? (i := 9) rfl)) (hw _ (List.mem_of_getElem? (i := 8) rfl)) (by decide) (by decide)) (g := (mkF m 63 #[.val (.int p1), .val (.int p2), .val (.int (1 : Int32)), .val (.int (((1 : Int32) <<< ((4 : Int32) &&& 31)) - (1 : Int32))), .val (.int (p1 ||| ((286331153 : Int32) &&& (((1 : Int32) <<< ((4 : Int32) &&& 31)) - (1 : Int32))))), .val (.int ((p1 ||| ((286331153 : Int32) &&& (((1 : Int32) <<< ((4 : Int32) &&& 31)) - (1 : Int32)))) &&& (((15 : Int32) <<< ((4 : Int32) &&& 31)) ^^^ (-1 : Int32)))), .unset, .unset] [(.int p1), (.int (own_f1 p1))])) rfl (by rw [hml]; rfl) (argsL := [(.int p1)]) (rest := [(.int (own_f1 p1))]) (lenOf own_pd69 rfl) rfl (by show 2 * 0 + _ ≤ _; exact Nat.le_of_eq rfl) (hb hby at_63) (fun _ _ => ⟨rfl, e15, (by decide : 0 + 0 ≤ _), (by decide : 0 + 0 ≤ _)⟩)
      dsimp only [Pt.U, Pt.locs, Pt.cells, Pt.slots] at X17 l17 y17 z17 st17 hQ17
      subst l17 y17 z17
      obtain ⟨rfl, N17q, e17⟩ := hQ17
      have N18 := Fr.app N16 N17q
      have k19 : ∀ t, Steps p.tables e below (T17.setTop (mkF m 66 #[.val (.int p1), .val (.int p2), .val (.int (1 : Int32)), .val (.int (((1 : Int32) <<< ((4 : Int32) &&& 31)) - (1 : Int32))), .val (.int (p1 ||| ((286331153 : Int32) &&& (((1 : Int32) <<< ((4 : Int32) &&& 31)) - (1 : Int32))))), .val (.int ((p1 ||| ((286331153 : Int32) &&& (((1 : Int32) <<< ((4 : Int32) &&& 31)) - (1 : Int32)))) &&& (((15 : Int32) <<< ((4 : Int32) &&& 31)) ^^^ (-1 : Int32)))), .unset, .unset] [(.int (own_f2 p1)), (.int (own_f1 p1))])) t → Steps p.tables e below (s₁.setTop (entryFrame m #[(.int p1), (.int p2)] maxLocals)) t := by
        intro t kt
        refine k14 t ?_
        show Steps p.tables e below (s₁.setTop (mkF m 7 #[.val (.int p1), .val (.int p2), .unset, .unset, .unset, .unset, .unset, .unset] [(.int (1 : Int32))])) _
        refine XS.istoreN X0.here hx rfl (hb hby at_7) rfl (l' := #[.val (.int p1), .val (.int p2), .val (.int (1 : Int32)), .unset, .unset, .unset, .unset, .unset]) rfl ?_
        show Steps p.tables e below (s₁.setTop (mkF m 8 #[.val (.int p1), .val (.int p2), .val (.int (1 : Int32)), .unset, .unset, .unset, .unset, .unset] [])) _
        refine XS.iloadN X0.here hx rfl (hb hby at_8) rfl ?_
        show Steps p.tables e below (s₁.setTop (mkF m 9 #[.val (.int p1), .val (.int p2), .val (.int (1 : Int32)), .unset, .unset, .unset, .unset, .unset] [(.int (1 : Int32))])) _
        refine XS.bipush X0.here hx rfl (hb hby at_9) ?_
        show Steps p.tables e below (s₁.setTop (mkF m 11 #[.val (.int p1), .val (.int p2), .val (.int (1 : Int32)), .unset, .unset, .unset, .unset, .unset] [(.int (8 : Int32)), (.int (1 : Int32))])) _
        refine XS.icmpYes X0.here hx rfl (pc0 := 11) (pc' := 18) rfl (hb hby at_11) rfl (feq (by decide : ¬ ((1 : Int32) = (8 : Int32)))).2 (by decide) (by decide) ?_
        show Steps p.tables e below (s₁.setTop (mkF m 18 #[.val (.int p1), .val (.int p2), .val (.int (1 : Int32)), .unset, .unset, .unset, .unset, .unset] [])) _
        refine XS.iconst X0.here hx rfl (hb hby at_18) ?_
        show Steps p.tables e below (s₁.setTop (mkF m 19 #[.val (.int p1), .val (.int p2), .val (.int (1 : Int32)), .unset, .unset, .unset, .unset, .unset] [(.int (1 : Int32))])) _
        refine XS.iconst X0.here hx rfl (hb hby at_19) ?_
        show Steps p.tables e below (s₁.setTop (mkF m 20 #[.val (.int p1), .val (.int p2), .val (.int (1 : Int32)), .unset, .unset, .unset, .unset, .unset] [(.int (4 : Int32)), (.int (1 : Int32))])) _
        refine XS.iloadN X0.here hx rfl (hb hby at_20) rfl ?_
        show Steps p.tables e below (s₁.setTop (mkF m 21 #[.val (.int p1), .val (.int p2), .val (.int (1 : Int32)), .unset, .unset, .unset, .unset, .unset] [(.int (1 : Int32)), (.int (4 : Int32)), (.int (1 : Int32))])) _
        refine XS.imul X0.here hx rfl (hb hby at_21) rfl ?_
        show Steps p.tables e below (s₁.setTop (mkF m 22 #[.val (.int p1), .val (.int p2), .val (.int (1 : Int32)), .unset, .unset, .unset, .unset, .unset] [(.int (4 : Int32)), (.int (1 : Int32))])) _
        refine XS.ishl X0.here hx rfl (hb hby at_22) rfl ?_
        show Steps p.tables e below (s₁.setTop (mkF m 23 #[.val (.int p1), .val (.int p2), .val (.int (1 : Int32)), .unset, .unset, .unset, .unset, .unset] [(.int ((1 : Int32) <<< ((4 : Int32) &&& 31)))])) _
        refine XS.iconst X0.here hx rfl (hb hby at_23) ?_
        show Steps p.tables e below (s₁.setTop (mkF m 24 #[.val (.int p1), .val (.int p2), .val (.int (1 : Int32)), .unset, .unset, .unset, .unset, .unset] [(.int (1 : Int32)), (.int ((1 : Int32) <<< ((4 : Int32) &&& 31)))])) _
        refine XS.isub X0.here hx rfl (hb hby at_24) rfl ?_
        show Steps p.tables e below (s₁.setTop (mkF m 25 #[.val (.int p1), .val (.int p2), .val (.int (1 : Int32)), .unset, .unset, .unset, .unset, .unset] [(.int (((1 : Int32) <<< ((4 : Int32) &&& 31)) - (1 : Int32)))])) _
        refine XS.istoreN X0.here hx rfl (hb hby at_25) rfl (l' := #[.val (.int p1), .val (.int p2), .val (.int (1 : Int32)), .val (.int (((1 : Int32) <<< ((4 : Int32) &&& 31)) - (1 : Int32))), .unset, .unset, .unset, .unset]) rfl ?_
        show Steps p.tables e below (s₁.setTop (mkF m 26 #[.val (.int p1), .val (.int p2), .val (.int (1 : Int32)), .val (.int (((1 : Int32) <<< ((4 : Int32) &&& 31)) - (1 : Int32))), .unset, .unset, .unset, .unset] [])) _
        refine XS.iloadN X0.here hx rfl (hb hby at_26) rfl ?_
        show Steps p.tables e below (s₁.setTop (mkF m 27 #[.val (.int p1), .val (.int p2), .val (.int (1 : Int32)), .val (.int (((1 : Int32) <<< ((4 : Int32) &&& 31)) - (1 : Int32))), .unset, .unset, .unset, .unset] [(.int p1)])) _
        refine X0.ldcInt hx hown (mvT hZ (hw _ (List.mem_of_getElem? (i := 1) rfl))) (g := (mkF m 27 #[.val (.int p1), .val (.int p2), .val (.int (1 : Int32)), .val (.int (((1 : Int32) <<< ((4 : Int32) &&& 31)) - (1 : Int32))), .unset, .unset, .unset, .unset] [(.int p1)])) rfl (hb hby at_27) _ ?_
        show Steps p.tables e below (s₁.setTop (mkF m 29 #[.val (.int p1), .val (.int p2), .val (.int (1 : Int32)), .val (.int (((1 : Int32) <<< ((4 : Int32) &&& 31)) - (1 : Int32))), .unset, .unset, .unset, .unset] [(.int (286331153 : Int32)), (.int p1)])) _
        refine XS.iloadN X0.here hx rfl (hb hby at_29) rfl ?_
        show Steps p.tables e below (s₁.setTop (mkF m 30 #[.val (.int p1), .val (.int p2), .val (.int (1 : Int32)), .val (.int (((1 : Int32) <<< ((4 : Int32) &&& 31)) - (1 : Int32))), .unset, .unset, .unset, .unset] [(.int (((1 : Int32) <<< ((4 : Int32) &&& 31)) - (1 : Int32))), (.int (286331153 : Int32)), (.int p1)])) _
        refine XS.iand X0.here hx rfl (hb hby at_30) rfl ?_
        show Steps p.tables e below (s₁.setTop (mkF m 31 #[.val (.int p1), .val (.int p2), .val (.int (1 : Int32)), .val (.int (((1 : Int32) <<< ((4 : Int32) &&& 31)) - (1 : Int32))), .unset, .unset, .unset, .unset] [(.int ((286331153 : Int32) &&& (((1 : Int32) <<< ((4 : Int32) &&& 31)) - (1 : Int32)))), (.int p1)])) _
        refine XS.ior X0.here hx rfl (hb hby at_31) rfl ?_
        show Steps p.tables e below (s₁.setTop (mkF m 32 #[.val (.int p1), .val (.int p2), .val (.int (1 : Int32)), .val (.int (((1 : Int32) <<< ((4 : Int32) &&& 31)) - (1 : Int32))), .unset, .unset, .unset, .unset] [(.int (p1 ||| ((286331153 : Int32) &&& (((1 : Int32) <<< ((4 : Int32) &&& 31)) - (1 : Int32)))))])) _
        refine XS.istore X0.here hx rfl (hb hby at_32) rfl (l' := #[.val (.int p1), .val (.int p2), .val (.int (1 : Int32)), .val (.int (((1 : Int32) <<< ((4 : Int32) &&& 31)) - (1 : Int32))), .val (.int (p1 ||| ((286331153 : Int32) &&& (((1 : Int32) <<< ((4 : Int32) &&& 31)) - (1 : Int32))))), .unset, .unset, .unset]) rfl ?_
        show Steps p.tables e below (s₁.setTop (mkF m 34 #[.val (.int p1), .val (.int p2), .val (.int (1 : Int32)), .val (.int (((1 : Int32) <<< ((4 : Int32) &&& 31)) - (1 : Int32))), .val (.int (p1 ||| ((286331153 : Int32) &&& (((1 : Int32) <<< ((4 : Int32) &&& 31)) - (1 : Int32))))), .unset, .unset, .unset] [])) _
        refine XS.iloadN X0.here hx rfl (hb hby at_34) rfl ?_
        show Steps p.tables e below (s₁.setTop (mkF m 35 #[.val (.int p1), .val (.int p2), .val (.int (1 : Int32)), .val (.int (((1 : Int32) <<< ((4 : Int32) &&& 31)) - (1 : Int32))), .val (.int (p1 ||| ((286331153 : Int32) &&& (((1 : Int32) <<< ((4 : Int32) &&& 31)) - (1 : Int32))))), .unset, .unset, .unset] [(.int (1 : Int32))])) _
        refine XS.bipush X0.here hx rfl (hb hby at_35) ?_
        show Steps p.tables e below (s₁.setTop (mkF m 37 #[.val (.int p1), .val (.int p2), .val (.int (1 : Int32)), .val (.int (((1 : Int32) <<< ((4 : Int32) &&& 31)) - (1 : Int32))), .val (.int (p1 ||| ((286331153 : Int32) &&& (((1 : Int32) <<< ((4 : Int32) &&& 31)) - (1 : Int32))))), .unset, .unset, .unset] [(.int (8 : Int32)), (.int (1 : Int32))])) _
        refine XS.icmpYes X0.here hx rfl (pc0 := 37) (pc' := 45) rfl (hb hby at_37) rfl (feq (by decide : ¬ ((1 : Int32) = (8 : Int32)))).2 (by decide) (by decide) ?_
        show Steps p.tables e below (s₁.setTop (mkF m 45 #[.val (.int p1), .val (.int p2), .val (.int (1 : Int32)), .val (.int (((1 : Int32) <<< ((4 : Int32) &&& 31)) - (1 : Int32))), .val (.int (p1 ||| ((286331153 : Int32) &&& (((1 : Int32) <<< ((4 : Int32) &&& 31)) - (1 : Int32))))), .unset, .unset, .unset] [])) _
        refine XS.iload X0.here hx rfl (hb hby at_45) rfl ?_
        show Steps p.tables e below (s₁.setTop (mkF m 47 #[.val (.int p1), .val (.int p2), .val (.int (1 : Int32)), .val (.int (((1 : Int32) <<< ((4 : Int32) &&& 31)) - (1 : Int32))), .val (.int (p1 ||| ((286331153 : Int32) &&& (((1 : Int32) <<< ((4 : Int32) &&& 31)) - (1 : Int32))))), .unset, .unset, .unset] [(.int (p1 ||| ((286331153 : Int32) &&& (((1 : Int32) <<< ((4 : Int32) &&& 31)) - (1 : Int32)))))])) _
        refine XS.bipush X0.here hx rfl (hb hby at_47) ?_
        show Steps p.tables e below (s₁.setTop (mkF m 49 #[.val (.int p1), .val (.int p2), .val (.int (1 : Int32)), .val (.int (((1 : Int32) <<< ((4 : Int32) &&& 31)) - (1 : Int32))), .val (.int (p1 ||| ((286331153 : Int32) &&& (((1 : Int32) <<< ((4 : Int32) &&& 31)) - (1 : Int32))))), .unset, .unset, .unset] [(.int (15 : Int32)), (.int (p1 ||| ((286331153 : Int32) &&& (((1 : Int32) <<< ((4 : Int32) &&& 31)) - (1 : Int32)))))])) _
        refine XS.iconst X0.here hx rfl (hb hby at_49) ?_
        show Steps p.tables e below (s₁.setTop (mkF m 50 #[.val (.int p1), .val (.int p2), .val (.int (1 : Int32)), .val (.int (((1 : Int32) <<< ((4 : Int32) &&& 31)) - (1 : Int32))), .val (.int (p1 ||| ((286331153 : Int32) &&& (((1 : Int32) <<< ((4 : Int32) &&& 31)) - (1 : Int32))))), .unset, .unset, .unset] [(.int (4 : Int32)), (.int (15 : Int32)), (.int (p1 ||| ((286331153 : Int32) &&& (((1 : Int32) <<< ((4 : Int32) &&& 31)) - (1 : Int32)))))])) _
        refine XS.iloadN X0.here hx rfl (hb hby at_50) rfl ?_
        show Steps p.tables e below (s₁.setTop (mkF m 51 #[.val (.int p1), .val (.int p2), .val (.int (1 : Int32)), .val (.int (((1 : Int32) <<< ((4 : Int32) &&& 31)) - (1 : Int32))), .val (.int (p1 ||| ((286331153 : Int32) &&& (((1 : Int32) <<< ((4 : Int32) &&& 31)) - (1 : Int32))))), .unset, .unset, .unset] [(.int (1 : Int32)), (.int (4 : Int32)), (.int (15 : Int32)), (.int (p1 ||| ((286331153 : Int32) &&& (((1 : Int32) <<< ((4 : Int32) &&& 31)) - (1 : Int32)))))])) _
        refine XS.imul X0.here hx rfl (hb hby at_51) rfl ?_
        show Steps p.tables e below (s₁.setTop (mkF m 52 #[.val (.int p1), .val (.int p2), .val (.int (1 : Int32)), .val (.int (((1 : Int32) <<< ((4 : Int32) &&& 31)) - (1 : Int32))), .val (.int (p1 ||| ((286331153 : Int32) &&& (((1 : Int32) <<< ((4 : Int32) &&& 31)) - (1 : Int32))))), .unset, .unset, .unset] [(.int (4 : Int32)), (.int (15 : Int32)), (.int (p1 ||| ((286331153 : Int32) &&& (((1 : Int32) <<< ((4 : Int32) &&& 31)) - (1 : Int32)))))])) _
        refine XS.ishl X0.here hx rfl (hb hby at_52) rfl ?_
        show Steps p.tables e below (s₁.setTop (mkF m 53 #[.val (.int p1), .val (.int p2), .val (.int (1 : Int32)), .val (.int (((1 : Int32) <<< ((4 : Int32) &&& 31)) - (1 : Int32))), .val (.int (p1 ||| ((286331153 : Int32) &&& (((1 : Int32) <<< ((4 : Int32) &&& 31)) - (1 : Int32))))), .unset, .unset, .unset] [(.int ((15 : Int32) <<< ((4 : Int32) &&& 31))), (.int (p1 ||| ((286331153 : Int32) &&& (((1 : Int32) <<< ((4 : Int32) &&& 31)) - (1 : Int32)))))])) _
        refine XS.iconst X0.here hx rfl (hb hby at_53) ?_
        show Steps p.tables e below (s₁.setTop (mkF m 54 #[.val (.int p1), .val (.int p2), .val (.int (1 : Int32)), .val (.int (((1 : Int32) <<< ((4 : Int32) &&& 31)) - (1 : Int32))), .val (.int (p1 ||| ((286331153 : Int32) &&& (((1 : Int32) <<< ((4 : Int32) &&& 31)) - (1 : Int32))))), .unset, .unset, .unset] [(.int (-1 : Int32)), (.int ((15 : Int32) <<< ((4 : Int32) &&& 31))), (.int (p1 ||| ((286331153 : Int32) &&& (((1 : Int32) <<< ((4 : Int32) &&& 31)) - (1 : Int32)))))])) _
        refine XS.ixor X0.here hx rfl (hb hby at_54) rfl ?_
        show Steps p.tables e below (s₁.setTop (mkF m 55 #[.val (.int p1), .val (.int p2), .val (.int (1 : Int32)), .val (.int (((1 : Int32) <<< ((4 : Int32) &&& 31)) - (1 : Int32))), .val (.int (p1 ||| ((286331153 : Int32) &&& (((1 : Int32) <<< ((4 : Int32) &&& 31)) - (1 : Int32))))), .unset, .unset, .unset] [(.int (((15 : Int32) <<< ((4 : Int32) &&& 31)) ^^^ (-1 : Int32))), (.int (p1 ||| ((286331153 : Int32) &&& (((1 : Int32) <<< ((4 : Int32) &&& 31)) - (1 : Int32)))))])) _
        refine XS.iand X0.here hx rfl (hb hby at_55) rfl ?_
        show Steps p.tables e below (s₁.setTop (mkF m 56 #[.val (.int p1), .val (.int p2), .val (.int (1 : Int32)), .val (.int (((1 : Int32) <<< ((4 : Int32) &&& 31)) - (1 : Int32))), .val (.int (p1 ||| ((286331153 : Int32) &&& (((1 : Int32) <<< ((4 : Int32) &&& 31)) - (1 : Int32))))), .unset, .unset, .unset] [(.int ((p1 ||| ((286331153 : Int32) &&& (((1 : Int32) <<< ((4 : Int32) &&& 31)) - (1 : Int32)))) &&& (((15 : Int32) <<< ((4 : Int32) &&& 31)) ^^^ (-1 : Int32))))])) _
        refine XS.istore X0.here hx rfl (hb hby at_56) rfl (l' := #[.val (.int p1), .val (.int p2), .val (.int (1 : Int32)), .val (.int (((1 : Int32) <<< ((4 : Int32) &&& 31)) - (1 : Int32))), .val (.int (p1 ||| ((286331153 : Int32) &&& (((1 : Int32) <<< ((4 : Int32) &&& 31)) - (1 : Int32))))), .val (.int ((p1 ||| ((286331153 : Int32) &&& (((1 : Int32) <<< ((4 : Int32) &&& 31)) - (1 : Int32)))) &&& (((15 : Int32) <<< ((4 : Int32) &&& 31)) ^^^ (-1 : Int32)))), .unset, .unset]) rfl ?_
        show Steps p.tables e below (s₁.setTop (mkF m 58 #[.val (.int p1), .val (.int p2), .val (.int (1 : Int32)), .val (.int (((1 : Int32) <<< ((4 : Int32) &&& 31)) - (1 : Int32))), .val (.int (p1 ||| ((286331153 : Int32) &&& (((1 : Int32) <<< ((4 : Int32) &&& 31)) - (1 : Int32))))), .val (.int ((p1 ||| ((286331153 : Int32) &&& (((1 : Int32) <<< ((4 : Int32) &&& 31)) - (1 : Int32)))) &&& (((15 : Int32) <<< ((4 : Int32) &&& 31)) ^^^ (-1 : Int32)))), .unset, .unset] [])) _
        refine XS.iloadN X0.here hx rfl (hb hby at_58) rfl ?_
        show Steps p.tables e below (s₁.setTop (mkF m 59 #[.val (.int p1), .val (.int p2), .val (.int (1 : Int32)), .val (.int (((1 : Int32) <<< ((4 : Int32) &&& 31)) - (1 : Int32))), .val (.int (p1 ||| ((286331153 : Int32) &&& (((1 : Int32) <<< ((4 : Int32) &&& 31)) - (1 : Int32))))), .val (.int ((p1 ||| ((286331153 : Int32) &&& (((1 : Int32) <<< ((4 : Int32) &&& 31)) - (1 : Int32)))) &&& (((15 : Int32) <<< ((4 : Int32) &&& 31)) ^^^ (-1 : Int32)))), .unset, .unset] [(.int p1)])) _
        refine st15 _ ?_
        show Steps p.tables e below (T15.setTop (mkF m 62 #[.val (.int p1), .val (.int p2), .val (.int (1 : Int32)), .val (.int (((1 : Int32) <<< ((4 : Int32) &&& 31)) - (1 : Int32))), .val (.int (p1 ||| ((286331153 : Int32) &&& (((1 : Int32) <<< ((4 : Int32) &&& 31)) - (1 : Int32))))), .val (.int ((p1 ||| ((286331153 : Int32) &&& (((1 : Int32) <<< ((4 : Int32) &&& 31)) - (1 : Int32)))) &&& (((15 : Int32) <<< ((4 : Int32) &&& 31)) ^^^ (-1 : Int32)))), .unset, .unset] [(.int (own_f1 p1))])) _
        refine XS.iloadN X15.here hx rfl (hb hby at_62) rfl ?_
        show Steps p.tables e below (T15.setTop (mkF m 63 #[.val (.int p1), .val (.int p2), .val (.int (1 : Int32)), .val (.int (((1 : Int32) <<< ((4 : Int32) &&& 31)) - (1 : Int32))), .val (.int (p1 ||| ((286331153 : Int32) &&& (((1 : Int32) <<< ((4 : Int32) &&& 31)) - (1 : Int32))))), .val (.int ((p1 ||| ((286331153 : Int32) &&& (((1 : Int32) <<< ((4 : Int32) &&& 31)) - (1 : Int32)))) &&& (((15 : Int32) <<< ((4 : Int32) &&& 31)) ^^^ (-1 : Int32)))), .unset, .unset] [(.int p1), (.int (own_f1 p1))])) _
        refine st17 _ ?_
        exact kt
      by_cases hc6 : (own_f1 p1) = (own_f2 p1)
      ·
        obtain ⟨v20, _, ⟨T20, L20, k20, n20⟩, -, X20, ⟨Lc20, hQ20, l20, y20, z20⟩, st20⟩ := Jvm.LawKit.callS X17 hx (y := (⟨"com/example/kerb/kerb/txn/SoleLocks", "length", "(I)I"⟩ : MethodName)) hown (mvT hZ (hw _ (List.mem_of_getElem? (i := 2) rfl))) (mvT hZ (hw _ (List.mem_of_getElem? (i := 3) rfl))) (mvT hZ (hw _ (List.mem_of_getElem? (i := 4) rfl))) (mvT hZ (hw _ (List.mem_of_getElem? (i := 5) rfl))) (by decide) (backOf (W := 0) (own_rm1 l Z a0 hw [] ((p1 ||| ((286331153 : Int32) &&& (((1 : Int32) <<< ((4 : Int32) &&& 31)) - (1 : Int32)))) &&& (((15 : Int32) <<< ((4 : Int32) &&& 31)) ^^^ (-1 : Int32))) h0 n0 Z0) hZ (hw _ (List.mem_of_getElem? (i := 5) rfl)) (hw _ (List.mem_of_getElem? (i := 4) rfl)) (by decide) (by decide)) (g := (mkF m 78 #[.val (.int p1), .val (.int p2), .val (.int (1 : Int32)), .val (.int (((1 : Int32) <<< ((4 : Int32) &&& 31)) - (1 : Int32))), .val (.int (p1 ||| ((286331153 : Int32) &&& (((1 : Int32) <<< ((4 : Int32) &&& 31)) - (1 : Int32))))), .val (.int ((p1 ||| ((286331153 : Int32) &&& (((1 : Int32) <<< ((4 : Int32) &&& 31)) - (1 : Int32)))) &&& (((15 : Int32) <<< ((4 : Int32) &&& 31)) ^^^ (-1 : Int32)))), .val (.int (1 : Int32)), .unset] [(.int ((p1 ||| ((286331153 : Int32) &&& (((1 : Int32) <<< ((4 : Int32) &&& 31)) - (1 : Int32)))) &&& (((15 : Int32) <<< ((4 : Int32) &&& 31)) ^^^ (-1 : Int32))))])) rfl (by rw [hml]; rfl) (argsL := [(.int ((p1 ||| ((286331153 : Int32) &&& (((1 : Int32) <<< ((4 : Int32) &&& 31)) - (1 : Int32)))) &&& (((15 : Int32) <<< ((4 : Int32) &&& 31)) ^^^ (-1 : Int32))))]) (rest := []) (lenOf own_pd69 rfl) rfl (by show 2 * 0 + _ ≤ _; exact Nat.le_of_eq rfl) (hb hby at_78) (fun _ _ => ⟨rfl, e17, (by decide : 0 + 0 ≤ _), (by decide : 0 + 0 ≤ _)⟩)
        dsimp only [Pt.U, Pt.locs, Pt.cells, Pt.slots] at X20 l20 y20 z20 st20 hQ20
        subst l20 y20 z20
        obtain ⟨rfl, N20q, e20⟩ := hQ20
        have N21 := Fr.app N18 N20q
        have k22 : ∀ t, Steps p.tables e below (T20.setTop (mkF m 82 #[.val (.int p1), .val (.int p2), .val (.int (1 : Int32)), .val (.int (((1 : Int32) <<< ((4 : Int32) &&& 31)) - (1 : Int32))), .val (.int (p1 ||| ((286331153 : Int32) &&& (((1 : Int32) <<< ((4 : Int32) &&& 31)) - (1 : Int32))))), .val (.int ((p1 ||| ((286331153 : Int32) &&& (((1 : Int32) <<< ((4 : Int32) &&& 31)) - (1 : Int32)))) &&& (((15 : Int32) <<< ((4 : Int32) &&& 31)) ^^^ (-1 : Int32)))), .val (.int (1 : Int32)), .unset] [(.int (1 : Int32)), (.int (own_f1 ((p1 ||| ((286331153 : Int32) &&& (((1 : Int32) <<< ((4 : Int32) &&& 31)) - (1 : Int32)))) &&& (((15 : Int32) <<< ((4 : Int32) &&& 31)) ^^^ (-1 : Int32)))))])) t → Steps p.tables e below (s₁.setTop (entryFrame m #[(.int p1), (.int p2)] maxLocals)) t := by
          intro t kt
          refine k19 t ?_
          show Steps p.tables e below (T17.setTop (mkF m 66 #[.val (.int p1), .val (.int p2), .val (.int (1 : Int32)), .val (.int (((1 : Int32) <<< ((4 : Int32) &&& 31)) - (1 : Int32))), .val (.int (p1 ||| ((286331153 : Int32) &&& (((1 : Int32) <<< ((4 : Int32) &&& 31)) - (1 : Int32))))), .val (.int ((p1 ||| ((286331153 : Int32) &&& (((1 : Int32) <<< ((4 : Int32) &&& 31)) - (1 : Int32)))) &&& (((15 : Int32) <<< ((4 : Int32) &&& 31)) ^^^ (-1 : Int32)))), .unset, .unset] [(.int (own_f2 p1)), (.int (own_f1 p1))])) _
          refine XS.icmpNo X17.here hx rfl (hb hby at_66) rfl (teq hc6).2 ?_
          show Steps p.tables e below (T17.setTop (mkF m 69 #[.val (.int p1), .val (.int p2), .val (.int (1 : Int32)), .val (.int (((1 : Int32) <<< ((4 : Int32) &&& 31)) - (1 : Int32))), .val (.int (p1 ||| ((286331153 : Int32) &&& (((1 : Int32) <<< ((4 : Int32) &&& 31)) - (1 : Int32))))), .val (.int ((p1 ||| ((286331153 : Int32) &&& (((1 : Int32) <<< ((4 : Int32) &&& 31)) - (1 : Int32)))) &&& (((15 : Int32) <<< ((4 : Int32) &&& 31)) ^^^ (-1 : Int32)))), .unset, .unset] [])) _
          refine XS.iconst X17.here hx rfl (hb hby at_69) ?_
          show Steps p.tables e below (T17.setTop (mkF m 70 #[.val (.int p1), .val (.int p2), .val (.int (1 : Int32)), .val (.int (((1 : Int32) <<< ((4 : Int32) &&& 31)) - (1 : Int32))), .val (.int (p1 ||| ((286331153 : Int32) &&& (((1 : Int32) <<< ((4 : Int32) &&& 31)) - (1 : Int32))))), .val (.int ((p1 ||| ((286331153 : Int32) &&& (((1 : Int32) <<< ((4 : Int32) &&& 31)) - (1 : Int32)))) &&& (((15 : Int32) <<< ((4 : Int32) &&& 31)) ^^^ (-1 : Int32)))), .unset, .unset] [(.int (1 : Int32))])) _
          refine XS.goto X17.here hx rfl (pc0 := 70) (pc' := 74) rfl (hb hby at_70) (by decide) (by decide) ?_
          show Steps p.tables e below (T17.setTop (mkF m 74 #[.val (.int p1), .val (.int p2), .val (.int (1 : Int32)), .val (.int (((1 : Int32) <<< ((4 : Int32) &&& 31)) - (1 : Int32))), .val (.int (p1 ||| ((286331153 : Int32) &&& (((1 : Int32) <<< ((4 : Int32) &&& 31)) - (1 : Int32))))), .val (.int ((p1 ||| ((286331153 : Int32) &&& (((1 : Int32) <<< ((4 : Int32) &&& 31)) - (1 : Int32)))) &&& (((15 : Int32) <<< ((4 : Int32) &&& 31)) ^^^ (-1 : Int32)))), .unset, .unset] [(.int (1 : Int32))])) _
          refine XS.istore X17.here hx rfl (hb hby at_74) rfl (l' := #[.val (.int p1), .val (.int p2), .val (.int (1 : Int32)), .val (.int (((1 : Int32) <<< ((4 : Int32) &&& 31)) - (1 : Int32))), .val (.int (p1 ||| ((286331153 : Int32) &&& (((1 : Int32) <<< ((4 : Int32) &&& 31)) - (1 : Int32))))), .val (.int ((p1 ||| ((286331153 : Int32) &&& (((1 : Int32) <<< ((4 : Int32) &&& 31)) - (1 : Int32)))) &&& (((15 : Int32) <<< ((4 : Int32) &&& 31)) ^^^ (-1 : Int32)))), .val (.int (1 : Int32)), .unset]) rfl ?_
          show Steps p.tables e below (T17.setTop (mkF m 76 #[.val (.int p1), .val (.int p2), .val (.int (1 : Int32)), .val (.int (((1 : Int32) <<< ((4 : Int32) &&& 31)) - (1 : Int32))), .val (.int (p1 ||| ((286331153 : Int32) &&& (((1 : Int32) <<< ((4 : Int32) &&& 31)) - (1 : Int32))))), .val (.int ((p1 ||| ((286331153 : Int32) &&& (((1 : Int32) <<< ((4 : Int32) &&& 31)) - (1 : Int32)))) &&& (((15 : Int32) <<< ((4 : Int32) &&& 31)) ^^^ (-1 : Int32)))), .val (.int (1 : Int32)), .unset] [])) _
          refine XS.iload X17.here hx rfl (hb hby at_76) rfl ?_
          show Steps p.tables e below (T17.setTop (mkF m 78 #[.val (.int p1), .val (.int p2), .val (.int (1 : Int32)), .val (.int (((1 : Int32) <<< ((4 : Int32) &&& 31)) - (1 : Int32))), .val (.int (p1 ||| ((286331153 : Int32) &&& (((1 : Int32) <<< ((4 : Int32) &&& 31)) - (1 : Int32))))), .val (.int ((p1 ||| ((286331153 : Int32) &&& (((1 : Int32) <<< ((4 : Int32) &&& 31)) - (1 : Int32)))) &&& (((15 : Int32) <<< ((4 : Int32) &&& 31)) ^^^ (-1 : Int32)))), .val (.int (1 : Int32)), .unset] [(.int ((p1 ||| ((286331153 : Int32) &&& (((1 : Int32) <<< ((4 : Int32) &&& 31)) - (1 : Int32)))) &&& (((15 : Int32) <<< ((4 : Int32) &&& 31)) ^^^ (-1 : Int32))))])) _
          refine st20 _ ?_
          show Steps p.tables e below (T20.setTop (mkF m 81 #[.val (.int p1), .val (.int p2), .val (.int (1 : Int32)), .val (.int (((1 : Int32) <<< ((4 : Int32) &&& 31)) - (1 : Int32))), .val (.int (p1 ||| ((286331153 : Int32) &&& (((1 : Int32) <<< ((4 : Int32) &&& 31)) - (1 : Int32))))), .val (.int ((p1 ||| ((286331153 : Int32) &&& (((1 : Int32) <<< ((4 : Int32) &&& 31)) - (1 : Int32)))) &&& (((15 : Int32) <<< ((4 : Int32) &&& 31)) ^^^ (-1 : Int32)))), .val (.int (1 : Int32)), .unset] [(.int (own_f1 ((p1 ||| ((286331153 : Int32) &&& (((1 : Int32) <<< ((4 : Int32) &&& 31)) - (1 : Int32)))) &&& (((15 : Int32) <<< ((4 : Int32) &&& 31)) ^^^ (-1 : Int32)))))])) _
          refine XS.iloadN X20.here hx rfl (hb hby at_81) rfl ?_
          exact kt
        by_cases hc7 : (own_f1 ((p1 ||| ((286331153 : Int32) &&& (((1 : Int32) <<< ((4 : Int32) &&& 31)) - (1 : Int32)))) &&& (((15 : Int32) <<< ((4 : Int32) &&& 31)) ^^^ (-1 : Int32)))) = (1 : Int32)
        ·
          obtain ⟨fs, hr, hrun, hended, hW, hsame⟩ := X20.leave (v := some (.int (1 : Int32))) (fun h => by rw [Bd.returns] at h; cases h)
          refine ⟨_, _, k22 _ ?_, hrun, hended, _, _, rfl, ?_, ⟨_, rfl⟩, hW, hsame.mono (by decide) (by decide)⟩
          · show Steps p.tables e below (T20.setTop (mkF m 82 #[.val (.int p1), .val (.int p2), .val (.int (1 : Int32)), .val (.int (((1 : Int32) <<< ((4 : Int32) &&& 31)) - (1 : Int32))), .val (.int (p1 ||| ((286331153 : Int32) &&& (((1 : Int32) <<< ((4 : Int32) &&& 31)) - (1 : Int32))))), .val (.int ((p1 ||| ((286331153 : Int32) &&& (((1 : Int32) <<< ((4 : Int32) &&& 31)) - (1 : Int32)))) &&& (((15 : Int32) <<< ((4 : Int32) &&& 31)) ^^^ (-1 : Int32)))), .val (.int (1 : Int32)), .unset] [(.int (1 : Int32)), (.int (own_f1 ((p1 ||| ((286331153 : Int32) &&& (((1 : Int32) <<< ((4 : Int32) &&& 31)) - (1 : Int32)))) &&& (((15 : Int32) <<< ((4 : Int32) &&& 31)) ^^^ (-1 : Int32)))))])) _
            refine XS.icmpNo X20.here hx rfl (hb hby at_82) rfl (teq hc7).2 ?_
            show Steps p.tables e below (T20.setTop (mkF m 85 #[.val (.int p1), .val (.int p2), .val (.int (1 : Int32)), .val (.int (((1 : Int32) <<< ((4 : Int32) &&& 31)) - (1 : Int32))), .val (.int (p1 ||| ((286331153 : Int32) &&& (((1 : Int32) <<< ((4 : Int32) &&& 31)) - (1 : Int32))))), .val (.int ((p1 ||| ((286331153 : Int32) &&& (((1 : Int32) <<< ((4 : Int32) &&& 31)) - (1 : Int32)))) &&& (((15 : Int32) <<< ((4 : Int32) &&& 31)) ^^^ (-1 : Int32)))), .val (.int (1 : Int32)), .unset] [])) _
            refine XS.iconst X20.here hx rfl (hb hby at_85) ?_
            show Steps p.tables e below (T20.setTop (mkF m 86 #[.val (.int p1), .val (.int p2), .val (.int (1 : Int32)), .val (.int (((1 : Int32) <<< ((4 : Int32) &&& 31)) - (1 : Int32))), .val (.int (p1 ||| ((286331153 : Int32) &&& (((1 : Int32) <<< ((4 : Int32) &&& 31)) - (1 : Int32))))), .val (.int ((p1 ||| ((286331153 : Int32) &&& (((1 : Int32) <<< ((4 : Int32) &&& 31)) - (1 : Int32)))) &&& (((15 : Int32) <<< ((4 : Int32) &&& 31)) ^^^ (-1 : Int32)))), .val (.int (1 : Int32)), .unset] [(.int (1 : Int32))])) _
            refine XS.goto X20.here hx rfl (pc0 := 86) (pc' := 90) rfl (hb hby at_86) (by decide) (by decide) ?_
            show Steps p.tables e below (T20.setTop (mkF m 90 #[.val (.int p1), .val (.int p2), .val (.int (1 : Int32)), .val (.int (((1 : Int32) <<< ((4 : Int32) &&& 31)) - (1 : Int32))), .val (.int (p1 ||| ((286331153 : Int32) &&& (((1 : Int32) <<< ((4 : Int32) &&& 31)) - (1 : Int32))))), .val (.int ((p1 ||| ((286331153 : Int32) &&& (((1 : Int32) <<< ((4 : Int32) &&& 31)) - (1 : Int32)))) &&& (((15 : Int32) <<< ((4 : Int32) &&& 31)) ^^^ (-1 : Int32)))), .val (.int (1 : Int32)), .unset] [(.int (1 : Int32))])) _
            refine XS.istore X20.here hx rfl (hb hby at_90) rfl (l' := #[.val (.int p1), .val (.int p2), .val (.int (1 : Int32)), .val (.int (((1 : Int32) <<< ((4 : Int32) &&& 31)) - (1 : Int32))), .val (.int (p1 ||| ((286331153 : Int32) &&& (((1 : Int32) <<< ((4 : Int32) &&& 31)) - (1 : Int32))))), .val (.int ((p1 ||| ((286331153 : Int32) &&& (((1 : Int32) <<< ((4 : Int32) &&& 31)) - (1 : Int32)))) &&& (((15 : Int32) <<< ((4 : Int32) &&& 31)) ^^^ (-1 : Int32)))), .val (.int (1 : Int32)), .val (.int (1 : Int32))]) rfl ?_
            show Steps p.tables e below (T20.setTop (mkF m 92 #[.val (.int p1), .val (.int p2), .val (.int (1 : Int32)), .val (.int (((1 : Int32) <<< ((4 : Int32) &&& 31)) - (1 : Int32))), .val (.int (p1 ||| ((286331153 : Int32) &&& (((1 : Int32) <<< ((4 : Int32) &&& 31)) - (1 : Int32))))), .val (.int ((p1 ||| ((286331153 : Int32) &&& (((1 : Int32) <<< ((4 : Int32) &&& 31)) - (1 : Int32)))) &&& (((15 : Int32) <<< ((4 : Int32) &&& 31)) ^^^ (-1 : Int32)))), .val (.int (1 : Int32)), .val (.int (1 : Int32))] [])) _
            refine XS.iload X20.here hx rfl (hb hby at_92) rfl ?_
            show Steps p.tables e below (T20.setTop (mkF m 94 #[.val (.int p1), .val (.int p2), .val (.int (1 : Int32)), .val (.int (((1 : Int32) <<< ((4 : Int32) &&& 31)) - (1 : Int32))), .val (.int (p1 ||| ((286331153 : Int32) &&& (((1 : Int32) <<< ((4 : Int32) &&& 31)) - (1 : Int32))))), .val (.int ((p1 ||| ((286331153 : Int32) &&& (((1 : Int32) <<< ((4 : Int32) &&& 31)) - (1 : Int32)))) &&& (((15 : Int32) <<< ((4 : Int32) &&& 31)) ^^^ (-1 : Int32)))), .val (.int (1 : Int32)), .val (.int (1 : Int32))] [(.int (1 : Int32))])) _
            refine XS.ifNo X20.here hx rfl (hb hby at_94) rfl ((if0 _ _).trans (feq (by decide : ¬ ((1 : Int32) = (0 : Int32)))).1) ?_
            show Steps p.tables e below (T20.setTop (mkF m 97 #[.val (.int p1), .val (.int p2), .val (.int (1 : Int32)), .val (.int (((1 : Int32) <<< ((4 : Int32) &&& 31)) - (1 : Int32))), .val (.int (p1 ||| ((286331153 : Int32) &&& (((1 : Int32) <<< ((4 : Int32) &&& 31)) - (1 : Int32))))), .val (.int ((p1 ||| ((286331153 : Int32) &&& (((1 : Int32) <<< ((4 : Int32) &&& 31)) - (1 : Int32)))) &&& (((15 : Int32) <<< ((4 : Int32) &&& 31)) ^^^ (-1 : Int32)))), .val (.int (1 : Int32)), .val (.int (1 : Int32))] [])) _
            refine XS.iload X20.here hx rfl (hb hby at_97) rfl ?_
            show Steps p.tables e below (T20.setTop (mkF m 99 #[.val (.int p1), .val (.int p2), .val (.int (1 : Int32)), .val (.int (((1 : Int32) <<< ((4 : Int32) &&& 31)) - (1 : Int32))), .val (.int (p1 ||| ((286331153 : Int32) &&& (((1 : Int32) <<< ((4 : Int32) &&& 31)) - (1 : Int32))))), .val (.int ((p1 ||| ((286331153 : Int32) &&& (((1 : Int32) <<< ((4 : Int32) &&& 31)) - (1 : Int32)))) &&& (((15 : Int32) <<< ((4 : Int32) &&& 31)) ^^^ (-1 : Int32)))), .val (.int (1 : Int32)), .val (.int (1 : Int32))] [(.int (1 : Int32))])) _
            refine XS.ifNo X20.here hx rfl (hb hby at_99) rfl ((if0 _ _).trans (feq (by decide : ¬ ((1 : Int32) = (0 : Int32)))).1) ?_
            show Steps p.tables e below (T20.setTop (mkF m 102 #[.val (.int p1), .val (.int p2), .val (.int (1 : Int32)), .val (.int (((1 : Int32) <<< ((4 : Int32) &&& 31)) - (1 : Int32))), .val (.int (p1 ||| ((286331153 : Int32) &&& (((1 : Int32) <<< ((4 : Int32) &&& 31)) - (1 : Int32))))), .val (.int ((p1 ||| ((286331153 : Int32) &&& (((1 : Int32) <<< ((4 : Int32) &&& 31)) - (1 : Int32)))) &&& (((15 : Int32) <<< ((4 : Int32) &&& 31)) ^^^ (-1 : Int32)))), .val (.int (1 : Int32)), .val (.int (1 : Int32))] [])) _
            refine XS.iconst X20.here hx rfl (hb hby at_102) ?_
            show Steps p.tables e below (T20.setTop (mkF m 103 #[.val (.int p1), .val (.int p2), .val (.int (1 : Int32)), .val (.int (((1 : Int32) <<< ((4 : Int32) &&& 31)) - (1 : Int32))), .val (.int (p1 ||| ((286331153 : Int32) &&& (((1 : Int32) <<< ((4 : Int32) &&& 31)) - (1 : Int32))))), .val (.int ((p1 ||| ((286331153 : Int32) &&& (((1 : Int32) <<< ((4 : Int32) &&& 31)) - (1 : Int32)))) &&& (((15 : Int32) <<< ((4 : Int32) &&& 31)) ^^^ (-1 : Int32)))), .val (.int (1 : Int32)), .val (.int (1 : Int32))] [(.int (1 : Int32))])) _
            refine XS.goto X20.here hx rfl (pc0 := 103) (pc' := 107) rfl (hb hby at_103) (by decide) (by decide) ?_
            show Steps p.tables e below (T20.setTop (mkF m 107 #[.val (.int p1), .val (.int p2), .val (.int (1 : Int32)), .val (.int (((1 : Int32) <<< ((4 : Int32) &&& 31)) - (1 : Int32))), .val (.int (p1 ||| ((286331153 : Int32) &&& (((1 : Int32) <<< ((4 : Int32) &&& 31)) - (1 : Int32))))), .val (.int ((p1 ||| ((286331153 : Int32) &&& (((1 : Int32) <<< ((4 : Int32) &&& 31)) - (1 : Int32)))) &&& (((15 : Int32) <<< ((4 : Int32) &&& 31)) ^^^ (-1 : Int32)))), .val (.int (1 : Int32)), .val (.int (1 : Int32))] [(.int (1 : Int32))])) _
            exact retN X20 hx (t := .boolean) Bd.returns (by simp) (hb hby at_107) hr
          · show own_Q0 Z p1 p2 h0 n0 _ T20.heap _
            rw [e20]
            exact ⟨(by rw [own_f0, if_neg hc1, if_pos hc5, if_pos hc6, if_pos hc7]), N21⟩
        ·
          obtain ⟨fs, hr, hrun, hended, hW, hsame⟩ := X20.leave (v := some (.int (0 : Int32))) (fun h => by rw [Bd.returns] at h; cases h)
          refine ⟨_, _, k22 _ ?_, hrun, hended, _, _, rfl, ?_, ⟨_, rfl⟩, hW, hsame.mono (by decide) (by decide)⟩
          · show Steps p.tables e below (T20.setTop (mkF m 82 #[.val (.int p1), .val (.int p2), .val (.int (1 : Int32)), .val (.int (((1 : Int32) <<< ((4 : Int32) &&& 31)) - (1 : Int32))), .val (.int (p1 ||| ((286331153 : Int32) &&& (((1 : Int32) <<< ((4 : Int32) &&& 31)) - (1 : Int32))))), .val (.int ((p1 ||| ((286331153 : Int32) &&& (((1 : Int32) <<< ((4 : Int32) &&& 31)) - (1 : Int32)))) &&& (((15 : Int32) <<< ((4 : Int32) &&& 31)) ^^^ (-1 : Int32)))), .val (.int (1 : Int32)), .unset] [(.int (1 : Int32)), (.int (own_f1 ((p1 ||| ((286331153 : Int32) &&& (((1 : Int32) <<< ((4 : Int32) &&& 31)) - (1 : Int32)))) &&& (((15 : Int32) <<< ((4 : Int32) &&& 31)) ^^^ (-1 : Int32)))))])) _
            refine XS.icmpYes X20.here hx rfl (pc0 := 82) (pc' := 89) rfl (hb hby at_82) rfl (feq hc7).2 (by decide) (by decide) ?_
            show Steps p.tables e below (T20.setTop (mkF m 89 #[.val (.int p1), .val (.int p2), .val (.int (1 : Int32)), .val (.int (((1 : Int32) <<< ((4 : Int32) &&& 31)) - (1 : Int32))), .val (.int (p1 ||| ((286331153 : Int32) &&& (((1 : Int32) <<< ((4 : Int32) &&& 31)) - (1 : Int32))))), .val (.int ((p1 ||| ((286331153 : Int32) &&& (((1 : Int32) <<< ((4 : Int32) &&& 31)) - (1 : Int32)))) &&& (((15 : Int32) <<< ((4 : Int32) &&& 31)) ^^^ (-1 : Int32)))), .val (.int (1 : Int32)), .unset] [])) _
            refine XS.iconst X20.here hx rfl (hb hby at_89) ?_
            show Steps p.tables e below (T20.setTop (mkF m 90 #[.val (.int p1), .val (.int p2), .val (.int (1 : Int32)), .val (.int (((1 : Int32) <<< ((4 : Int32) &&& 31)) - (1 : Int32))), .val (.int (p1 ||| ((286331153 : Int32) &&& (((1 : Int32) <<< ((4 : Int32) &&& 31)) - (1 : Int32))))), .val (.int ((p1 ||| ((286331153 : Int32) &&& (((1 : Int32) <<< ((4 : Int32) &&& 31)) - (1 : Int32)))) &&& (((15 : Int32) <<< ((4 : Int32) &&& 31)) ^^^ (-1 : Int32)))), .val (.int (1 : Int32)), .unset] [(.int (0 : Int32))])) _
            refine XS.istore X20.here hx rfl (hb hby at_90) rfl (l' := #[.val (.int p1), .val (.int p2), .val (.int (1 : Int32)), .val (.int (((1 : Int32) <<< ((4 : Int32) &&& 31)) - (1 : Int32))), .val (.int (p1 ||| ((286331153 : Int32) &&& (((1 : Int32) <<< ((4 : Int32) &&& 31)) - (1 : Int32))))), .val (.int ((p1 ||| ((286331153 : Int32) &&& (((1 : Int32) <<< ((4 : Int32) &&& 31)) - (1 : Int32)))) &&& (((15 : Int32) <<< ((4 : Int32) &&& 31)) ^^^ (-1 : Int32)))), .val (.int (1 : Int32)), .val (.int (0 : Int32))]) rfl ?_
            show Steps p.tables e below (T20.setTop (mkF m 92 #[.val (.int p1), .val (.int p2), .val (.int (1 : Int32)), .val (.int (((1 : Int32) <<< ((4 : Int32) &&& 31)) - (1 : Int32))), .val (.int (p1 ||| ((286331153 : Int32) &&& (((1 : Int32) <<< ((4 : Int32) &&& 31)) - (1 : Int32))))), .val (.int ((p1 ||| ((286331153 : Int32) &&& (((1 : Int32) <<< ((4 : Int32) &&& 31)) - (1 : Int32)))) &&& (((15 : Int32) <<< ((4 : Int32) &&& 31)) ^^^ (-1 : Int32)))), .val (.int (1 : Int32)), .val (.int (0 : Int32))] [])) _
            refine XS.iload X20.here hx rfl (hb hby at_92) rfl ?_
            show Steps p.tables e below (T20.setTop (mkF m 94 #[.val (.int p1), .val (.int p2), .val (.int (1 : Int32)), .val (.int (((1 : Int32) <<< ((4 : Int32) &&& 31)) - (1 : Int32))), .val (.int (p1 ||| ((286331153 : Int32) &&& (((1 : Int32) <<< ((4 : Int32) &&& 31)) - (1 : Int32))))), .val (.int ((p1 ||| ((286331153 : Int32) &&& (((1 : Int32) <<< ((4 : Int32) &&& 31)) - (1 : Int32)))) &&& (((15 : Int32) <<< ((4 : Int32) &&& 31)) ^^^ (-1 : Int32)))), .val (.int (1 : Int32)), .val (.int (0 : Int32))] [(.int (1 : Int32))])) _
            refine XS.ifNo X20.here hx rfl (hb hby at_94) rfl ((if0 _ _).trans (feq (by decide : ¬ ((1 : Int32) = (0 : Int32)))).1) ?_
            show Steps p.tables e below (T20.setTop (mkF m 97 #[.val (.int p1), .val (.int p2), .val (.int (1 : Int32)), .val (.int (((1 : Int32) <<< ((4 : Int32) &&& 31)) - (1 : Int32))), .val (.int (p1 ||| ((286331153 : Int32) &&& (((1 : Int32) <<< ((4 : Int32) &&& 31)) - (1 : Int32))))), .val (.int ((p1 ||| ((286331153 : Int32) &&& (((1 : Int32) <<< ((4 : Int32) &&& 31)) - (1 : Int32)))) &&& (((15 : Int32) <<< ((4 : Int32) &&& 31)) ^^^ (-1 : Int32)))), .val (.int (1 : Int32)), .val (.int (0 : Int32))] [])) _
            refine XS.iload X20.here hx rfl (hb hby at_97) rfl ?_
            show Steps p.tables e below (T20.setTop (mkF m 99 #[.val (.int p1), .val (.int p2), .val (.int (1 : Int32)), .val (.int (((1 : Int32) <<< ((4 : Int32) &&& 31)) - (1 : Int32))), .val (.int (p1 ||| ((286331153 : Int32) &&& (((1 : Int32) <<< ((4 : Int32) &&& 31)) - (1 : Int32))))), .val (.int ((p1 ||| ((286331153 : Int32) &&& (((1 : Int32) <<< ((4 : Int32) &&& 31)) - (1 : Int32)))) &&& (((15 : Int32) <<< ((4 : Int32) &&& 31)) ^^^ (-1 : Int32)))), .val (.int (1 : Int32)), .val (.int (0 : Int32))] [(.int (0 : Int32))])) _
            refine XS.ifYes X20.here hx rfl (pc0 := 99) (pc' := 106) rfl (hb hby at_99) rfl ((if0 _ _).trans (teq (by decide : (0 : Int32) = (0 : Int32))).1) (by decide) (by decide) ?_
            show Steps p.tables e below (T20.setTop (mkF m 106 #[.val (.int p1), .val (.int p2), .val (.int (1 : Int32)), .val (.int (((1 : Int32) <<< ((4 : Int32) &&& 31)) - (1 : Int32))), .val (.int (p1 ||| ((286331153 : Int32) &&& (((1 : Int32) <<< ((4 : Int32) &&& 31)) - (1 : Int32))))), .val (.int ((p1 ||| ((286331153 : Int32) &&& (((1 : Int32) <<< ((4 : Int32) &&& 31)) - (1 : Int32)))) &&& (((15 : Int32) <<< ((4 : Int32) &&& 31)) ^^^ (-1 : Int32)))), .val (.int (1 : Int32)), .val (.int (0 : Int32))] [])) _
            refine XS.iconst X20.here hx rfl (hb hby at_106) ?_
            show Steps p.tables e below (T20.setTop (mkF m 107 #[.val (.int p1), .val (.int p2), .val (.int (1 : Int32)), .val (.int (((1 : Int32) <<< ((4 : Int32) &&& 31)) - (1 : Int32))), .val (.int (p1 ||| ((286331153 : Int32) &&& (((1 : Int32) <<< ((4 : Int32) &&& 31)) - (1 : Int32))))), .val (.int ((p1 ||| ((286331153 : Int32) &&& (((1 : Int32) <<< ((4 : Int32) &&& 31)) - (1 : Int32)))) &&& (((15 : Int32) <<< ((4 : Int32) &&& 31)) ^^^ (-1 : Int32)))), .val (.int (1 : Int32)), .val (.int (0 : Int32))] [(.int (0 : Int32))])) _
            exact retN X20 hx (t := .boolean) Bd.returns (by simp) (hb hby at_107) hr
          · show own_Q0 Z p1 p2 h0 n0 _ T20.heap _
            rw [e20]
            exact ⟨(by rw [own_f0, if_neg hc1, if_pos hc5, if_pos hc6, if_neg hc7]), N21⟩
      ·
        obtain ⟨v23, _, ⟨T23, L23, k23, n23⟩, -, X23, ⟨Lc23, hQ23, l23, y23, z23⟩, st23⟩ := Jvm.LawKit.callS X17 hx (y := (⟨"com/example/kerb/kerb/txn/SoleLocks", "length", "(I)I"⟩ : MethodName)) hown (mvT hZ (hw _ (List.mem_of_getElem? (i := 2) rfl))) (mvT hZ (hw _ (List.mem_of_getElem? (i := 3) rfl))) (mvT hZ (hw _ (List.mem_of_getElem? (i := 4) rfl))) (mvT hZ (hw _ (List.mem_of_getElem? (i := 5) rfl))) (by decide) (backOf (W := 0) (own_rm1 l Z a0 hw [] ((p1 ||| ((286331153 : Int32) &&& (((1 : Int32) <<< ((4 : Int32) &&& 31)) - (1 : Int32)))) &&& (((15 : Int32) <<< ((4 : Int32) &&& 31)) ^^^ (-1 : Int32))) h0 n0 Z0) hZ (hw _ (List.mem_of_getElem? (i := 5) rfl)) (hw _ (List.mem_of_getElem? (i := 4) rfl)) (by decide) (by decide)) (g := (mkF m 78 #[.val (.int p1), .val (.int p2), .val (.int (1 : Int32)), .val (.int (((1 : Int32) <<< ((4 : Int32) &&& 31)) - (1 : Int32))), .val (.int (p1 ||| ((286331153 : Int32) &&& (((1 : Int32) <<< ((4 : Int32) &&& 31)) - (1 : Int32))))), .val (.int ((p1 ||| ((286331153 : Int32) &&& (((1 : Int32) <<< ((4 : Int32) &&& 31)) - (1 : Int32)))) &&& (((15 : Int32) <<< ((4 : Int32) &&& 31)) ^^^ (-1 : Int32)))), .val (.int (0 : Int32)), .unset] [(.int ((p1 ||| ((286331153 : Int32) &&& (((1 : Int32) <<< ((4 : Int32) &&& 31)) - (1 : Int32)))) &&& (((15 : Int32) <<< ((4 : Int32) &&& 31)) ^^^ (-1 : Int32))))])) rfl (by rw [hml]; rfl) (argsL := [(.int ((p1 ||| ((286331153 : Int32) &&& (((1 : Int32) <<< ((4 : Int32) &&& 31)) - (1 : Int32)))) &&& (((15 : Int32) <<< ((4 : Int32) &&& 31)) ^^^ (-1 : Int32))))]) (rest := []) (lenOf own_pd69 rfl) rfl (by show 2 * 0 + _ ≤ _; exact Nat.le_of_eq rfl) (hb hby at_78) (fun _ _ => ⟨rfl, e17, (by decide : 0 + 0 ≤ _), (by decide : 0 + 0 ≤ _)⟩)
        dsimp only [Pt.U, Pt.locs, Pt.cells, Pt.slots] at X23 l23 y23 z23 st23 hQ23
        subst l23 y23 z23
        obtain ⟨rfl, N23q, e23⟩ := hQ23
        have N24 := Fr.app N18 N23q
        have k25 : ∀ t, Steps p.tables e below (T23.setTop (mkF m 82 #[.val (.int p1), .val (.int p2), .val (.int (1 : Int32)), .val (.int (((1 : Int32) <<< ((4 : Int32) &&& 31)) - (1 : Int32))), .val (.int (p1 ||| ((286331153 : Int32) &&& (((1 : Int32) <<< ((4 : Int32) &&& 31)) - (1 : Int32))))), .val (.int ((p1 ||| ((286331153 : Int32) &&& (((1 : Int32) <<< ((4 : Int32) &&& 31)) - (1 : Int32)))) &&& (((15 : Int32) <<< ((4 : Int32) &&& 31)) ^^^ (-1 : Int32)))), .val (.int (0 : Int32)), .unset] [(.int (1 : Int32)), (.int (own_f1 ((p1 ||| ((286331153 : Int32) &&& (((1 : Int32) <<< ((4 : Int32) &&& 31)) - (1 : Int32)))) &&& (((15 : Int32) <<< ((4 : Int32) &&& 31)) ^^^ (-1 : Int32)))))])) t → Steps p.tables e below (s₁.setTop (entryFrame m #[(.int p1), (.int p2)] maxLocals)) t := by
          intro t kt
          refine k19 t ?_
          show Steps p.tables e below (T17.setTop (mkF m 66 #[.val (.int p1), .val (.int p2), .val (.int (1 : Int32)), .val (.int (((1 : Int32) <<< ((4 : Int32) &&& 31)) - (1 : Int32))), .val (.int (p1 ||| ((286331153 : Int32) &&& (((1 : Int32) <<< ((4 : Int32) &&& 31)) - (1 : Int32))))), .val (.int ((p1 ||| ((286331153 : Int32) &&& (((1 : Int32) <<< ((4 : Int32) &&& 31)) - (1 : Int32)))) &&& (((15 : Int32) <<< ((4 : Int32) &&& 31)) ^^^ (-1 : Int32)))), .unset, .unset] [(.int (own_f2 p1)), (.int (own_f1 p1))])) _
          refine XS.icmpYes X17.here hx rfl (pc0 := 66) (pc' := 73) rfl (hb hby at_66) rfl (feq hc6).2 (by decide) (by decide) ?_
          show Steps p.tables e below (T17.setTop (mkF m 73 #[.val (.int p1), .val (.int p2), .val (.int (1 : Int32)), .val (.int (((1 : Int32) <<< ((4 : Int32) &&& 31)) - (1 : Int32))), .val (.int (p1 ||| ((286331153 : Int32) &&& (((1 : Int32) <<< ((4 : Int32) &&& 31)) - (1 : Int32))))), .val (.int ((p1 ||| ((286331153 : Int32) &&& (((1 : Int32) <<< ((4 : Int32) &&& 31)) - (1 : Int32)))) &&& (((15 : Int32) <<< ((4 : Int32) &&& 31)) ^^^ (-1 : Int32)))), .unset, .unset] [])) _
          refine XS.iconst X17.here hx rfl (hb hby at_73) ?_
          show Steps p.tables e below (T17.setTop (mkF m 74 #[.val (.int p1), .val (.int p2), .val (.int (1 : Int32)), .val (.int (((1 : Int32) <<< ((4 : Int32) &&& 31)) - (1 : Int32))), .val (.int (p1 ||| ((286331153 : Int32) &&& (((1 : Int32) <<< ((4 : Int32) &&& 31)) - (1 : Int32))))), .val (.int ((p1 ||| ((286331153 : Int32) &&& (((1 : Int32) <<< ((4 : Int32) &&& 31)) - (1 : Int32)))) &&& (((15 : Int32) <<< ((4 : Int32) &&& 31)) ^^^ (-1 : Int32)))), .unset, .unset] [(.int (0 : Int32))])) _
          refine XS.istore X17.here hx rfl (hb hby at_74) rfl (l' := #[.val (.int p1), .val (.int p2), .val (.int (1 : Int32)), .val (.int (((1 : Int32) <<< ((4 : Int32) &&& 31)) - (1 : Int32))), .val (.int (p1 ||| ((286331153 : Int32) &&& (((1 : Int32) <<< ((4 : Int32) &&& 31)) - (1 : Int32))))), .val (.int ((p1 ||| ((286331153 : Int32) &&& (((1 : Int32) <<< ((4 : Int32) &&& 31)) - (1 : Int32)))) &&& (((15 : Int32) <<< ((4 : Int32) &&& 31)) ^^^ (-1 : Int32)))), .val (.int (0 : Int32)), .unset]) rfl ?_
          show Steps p.tables e below (T17.setTop (mkF m 76 #[.val (.int p1), .val (.int p2), .val (.int (1 : Int32)), .val (.int (((1 : Int32) <<< ((4 : Int32) &&& 31)) - (1 : Int32))), .val (.int (p1 ||| ((286331153 : Int32) &&& (((1 : Int32) <<< ((4 : Int32) &&& 31)) - (1 : Int32))))), .val (.int ((p1 ||| ((286331153 : Int32) &&& (((1 : Int32) <<< ((4 : Int32) &&& 31)) - (1 : Int32)))) &&& (((15 : Int32) <<< ((4 : Int32) &&& 31)) ^^^ (-1 : Int32)))), .val (.int (0 : Int32)), .unset] [])) _
          refine XS.iload X17.here hx rfl (hb hby at_76) rfl ?_
          show Steps p.tables e below (T17.setTop (mkF m 78 #[.val (.int p1), .val (.int p2), .val (.int (1 : Int32)), .val (.int (((1 : Int32) <<< ((4 : Int32) &&& 31)) - (1 : Int32))), .val (.int (p1 ||| ((286331153 : Int32) &&& (((1 : Int32) <<< ((4 : Int32) &&& 31)) - (1 : Int32))))), .val (.int ((p1 ||| ((286331153 : Int32) &&& (((1 : Int32) <<< ((4 : Int32) &&& 31)) - (1 : Int32)))) &&& (((15 : Int32) <<< ((4 : Int32) &&& 31)) ^^^ (-1 : Int32)))), .val (.int (0 : Int32)), .unset] [(.int ((p1 ||| ((286331153 : Int32) &&& (((1 : Int32) <<< ((4 : Int32) &&& 31)) - (1 : Int32)))) &&& (((15 : Int32) <<< ((4 : Int32) &&& 31)) ^^^ (-1 : Int32))))])) _
          refine st23 _ ?_
          show Steps p.tables e below (T23.setTop (mkF m 81 #[.val (.int p1), .val (.int p2), .val (.int (1 : Int32)), .val (.int (((1 : Int32) <<< ((4 : Int32) &&& 31)) - (1 : Int32))), .val (.int (p1 ||| ((286331153 : Int32) &&& (((1 : Int32) <<< ((4 : Int32) &&& 31)) - (1 : Int32))))), .val (.int ((p1 ||| ((286331153 : Int32) &&& (((1 : Int32) <<< ((4 : Int32) &&& 31)) - (1 : Int32)))) &&& (((15 : Int32) <<< ((4 : Int32) &&& 31)) ^^^ (-1 : Int32)))), .val (.int (0 : Int32)), .unset] [(.int (own_f1 ((p1 ||| ((286331153 : Int32) &&& (((1 : Int32) <<< ((4 : Int32) &&& 31)) - (1 : Int32)))) &&& (((15 : Int32) <<< ((4 : Int32) &&& 31)) ^^^ (-1 : Int32)))))])) _
          refine XS.iloadN X23.here hx rfl (hb hby at_81) rfl ?_
          exact kt
        by_cases hc8 : (own_f1 ((p1 ||| ((286331153 : Int32) &&& (((1 : Int32) <<< ((4 : Int32) &&& 31)) - (1 : Int32)))) &&& (((15 : Int32) <<< ((4 : Int32) &&& 31)) ^^^ (-1 : Int32)))) = (1 : Int32)
        ·
          obtain ⟨fs, hr, hrun, hended, hW, hsame⟩ := X23.leave (v := some (.int (0 : Int32))) (fun h => by rw [Bd.returns] at h; cases h)
          refine ⟨_, _, k25 _ ?_, hrun, hended, _, _, rfl, ?_, ⟨_, rfl⟩, hW, hsame.mono (by decide) (by decide)⟩
          · show Steps p.tables e below (T23.setTop (mkF m 82 #[.val (.int p1), .val (.int p2), .val (.int (1 : Int32)), .val (.int (((1 : Int32) <<< ((4 : Int32) &&& 31)) - (1 : Int32))), .val (.int (p1 ||| ((286331153 : Int32) &&& (((1 : Int32) <<< ((4 : Int32) &&& 31)) - (1 : Int32))))), .val (.int ((p1 ||| ((286331153 : Int32) &&& (((1 : Int32) <<< ((4 : Int32) &&& 31)) - (1 : Int32)))) &&& (((15 : Int32) <<< ((4 : Int32) &&& 31)) ^^^ (-1 : Int32)))), .val (.int (0 : Int32)), .unset] [(.int (1 : Int32)), (.int (own_f1 ((p1 ||| ((286331153 : Int32) &&& (((1 : Int32) <<< ((4 : Int32) &&& 31)) - (1 : Int32)))) &&& (((15 : Int32) <<< ((4 : Int32) &&& 31)) ^^^ (-1 : Int32)))))])) _
            refine XS.icmpNo X23.here hx rfl (hb hby at_82) rfl (teq hc8).2 ?_
            show Steps p.tables e below (T23.setTop (mkF m 85 #[.val (.int p1), .val (.int p2), .val (.int (1 : Int32)), .val (.int (((1 : Int32) <<< ((4 : Int32) &&& 31)) - (1 : Int32))), .val (.int (p1 ||| ((286331153 : Int32) &&& (((1 : Int32) <<< ((4 : Int32) &&& 31)) - (1 : Int32))))), .val (.int ((p1 ||| ((286331153 : Int32) &&& (((1 : Int32) <<< ((4 : Int32) &&& 31)) - (1 : Int32)))) &&& (((15 : Int32) <<< ((4 : Int32) &&& 31)) ^^^ (-1 : Int32)))), .val (.int (0 : Int32)), .unset] [])) _
            refine XS.iconst X23.here hx rfl (hb hby at_85) ?_
            show Steps p.tables e below (T23.setTop (mkF m 86 #[.val (.int p1), .val (.int p2), .val (.int (1 : Int32)), .val (.int (((1 : Int32) <<< ((4 : Int32) &&& 31)) - (1 : Int32))), .val (.int (p1 ||| ((286331153 : Int32) &&& (((1 : Int32) <<< ((4 : Int32) &&& 31)) - (1 : Int32))))), .val (.int ((p1 ||| ((286331153 : Int32) &&& (((1 : Int32) <<< ((4 : Int32) &&& 31)) - (1 : Int32)))) &&& (((15 : Int32) <<< ((4 : Int32) &&& 31)) ^^^ (-1 : Int32)))), .val (.int (0 : Int32)), .unset] [(.int (1 : Int32))])) _
            refine XS.goto X23.here hx rfl (pc0 := 86) (pc' := 90) rfl (hb hby at_86) (by decide) (by decide) ?_
            show Steps p.tables e below (T23.setTop (mkF m 90 #[.val (.int p1), .val (.int p2), .val (.int (1 : Int32)), .val (.int (((1 : Int32) <<< ((4 : Int32) &&& 31)) - (1 : Int32))), .val (.int (p1 ||| ((286331153 : Int32) &&& (((1 : Int32) <<< ((4 : Int32) &&& 31)) - (1 : Int32))))), .val (.int ((p1 ||| ((286331153 : Int32) &&& (((1 : Int32) <<< ((4 : Int32) &&& 31)) - (1 : Int32)))) &&& (((15 : Int32) <<< ((4 : Int32) &&& 31)) ^^^ (-1 : Int32)))), .val (.int (0 : Int32)), .unset] [(.int (1 : Int32))])) _
            refine XS.istore X23.here hx rfl (hb hby at_90) rfl (l' := #[.val (.int p1), .val (.int p2), .val (.int (1 : Int32)), .val (.int (((1 : Int32) <<< ((4 : Int32) &&& 31)) - (1 : Int32))), .val (.int (p1 ||| ((286331153 : Int32) &&& (((1 : Int32) <<< ((4 : Int32) &&& 31)) - (1 : Int32))))), .val (.int ((p1 ||| ((286331153 : Int32) &&& (((1 : Int32) <<< ((4 : Int32) &&& 31)) - (1 : Int32)))) &&& (((15 : Int32) <<< ((4 : Int32) &&& 31)) ^^^ (-1 : Int32)))), .val (.int (0 : Int32)), .val (.int (1 : Int32))]) rfl ?_
            show Steps p.tables e below (T23.setTop (mkF m 92 #[.val (.int p1), .val (.int p2), .val (.int (1 : Int32)), .val (.int (((1 : Int32) <<< ((4 : Int32) &&& 31)) - (1 : Int32))), .val (.int (p1 ||| ((286331153 : Int32) &&& (((1 : Int32) <<< ((4 : Int32) &&& 31)) - (1 : Int32))))), .val (.int ((p1 ||| ((286331153 : Int32) &&& (((1 : Int32) <<< ((4 : Int32) &&& 31)) - (1 : Int32)))) &&& (((15 : Int32) <<< ((4 : Int32) &&& 31)) ^^^ (-1 : Int32)))), .val (.int (0 : Int32)), .val (.int (1 : Int32))] [])) _
            refine XS.iload X23.here hx rfl (hb hby at_92) rfl ?_
            show Steps p.tables e below (T23.setTop (mkF m 94 #[.val (.int p1), .val (.int p2), .val (.int (1 : Int32)), .val (.int (((1 : Int32) <<< ((4 : Int32) &&& 31)) - (1 : Int32))), .val (.int (p1 ||| ((286331153 : Int32) &&& (((1 : Int32) <<< ((4 : Int32) &&& 31)) - (1 : Int32))))), .val (.int ((p1 ||| ((286331153 : Int32) &&& (((1 : Int32) <<< ((4 : Int32) &&& 31)) - (1 : Int32)))) &&& (((15 : Int32) <<< ((4 : Int32) &&& 31)) ^^^ (-1 : Int32)))), .val (.int (0 : Int32)), .val (.int (1 : Int32))] [(.int (0 : Int32))])) _
            refine XS.ifYes X23.here hx rfl (pc0 := 94) (pc' := 106) rfl (hb hby at_94) rfl ((if0 _ _).trans (teq (by decide : (0 : Int32) = (0 : Int32))).1) (by decide) (by decide) ?_
            show Steps p.tables e below (T23.setTop (mkF m 106 #[.val (.int p1), .val (.int p2), .val (.int (1 : Int32)), .val (.int (((1 : Int32) <<< ((4 : Int32) &&& 31)) - (1 : Int32))), .val (.int (p1 ||| ((286331153 : Int32) &&& (((1 : Int32) <<< ((4 : Int32) &&& 31)) - (1 : Int32))))), .val (.int ((p1 ||| ((286331153 : Int32) &&& (((1 : Int32) <<< ((4 : Int32) &&& 31)) - (1 : Int32)))) &&& (((15 : Int32) <<< ((4 : Int32) &&& 31)) ^^^ (-1 : Int32)))), .val (.int (0 : Int32)), .val (.int (1 : Int32))] [])) _
            refine XS.iconst X23.here hx rfl (hb hby at_106) ?_
            show Steps p.tables e below (T23.setTop (mkF m 107 #[.val (.int p1), .val (.int p2), .val (.int (1 : Int32)), .val (.int (((1 : Int32) <<< ((4 : Int32) &&& 31)) - (1 : Int32))), .val (.int (p1 ||| ((286331153 : Int32) &&& (((1 : Int32) <<< ((4 : Int32) &&& 31)) - (1 : Int32))))), .val (.int ((p1 ||| ((286331153 : Int32) &&& (((1 : Int32) <<< ((4 : Int32) &&& 31)) - (1 : Int32)))) &&& (((15 : Int32) <<< ((4 : Int32) &&& 31)) ^^^ (-1 : Int32)))), .val (.int (0 : Int32)), .val (.int (1 : Int32))] [(.int (0 : Int32))])) _
            exact retN X23 hx (t := .boolean) Bd.returns (by simp) (hb hby at_107) hr
          · show own_Q0 Z p1 p2 h0 n0 _ T23.heap _
            rw [e23]
            exact ⟨(by rw [own_f0, if_neg hc1, if_pos hc5, if_neg hc6, if_pos hc8]), N24⟩
        ·
          obtain ⟨fs, hr, hrun, hended, hW, hsame⟩ := X23.leave (v := some (.int (0 : Int32))) (fun h => by rw [Bd.returns] at h; cases h)
          refine ⟨_, _, k25 _ ?_, hrun, hended, _, _, rfl, ?_, ⟨_, rfl⟩, hW, hsame.mono (by decide) (by decide)⟩
          · show Steps p.tables e below (T23.setTop (mkF m 82 #[.val (.int p1), .val (.int p2), .val (.int (1 : Int32)), .val (.int (((1 : Int32) <<< ((4 : Int32) &&& 31)) - (1 : Int32))), .val (.int (p1 ||| ((286331153 : Int32) &&& (((1 : Int32) <<< ((4 : Int32) &&& 31)) - (1 : Int32))))), .val (.int ((p1 ||| ((286331153 : Int32) &&& (((1 : Int32) <<< ((4 : Int32) &&& 31)) - (1 : Int32)))) &&& (((15 : Int32) <<< ((4 : Int32) &&& 31)) ^^^ (-1 : Int32)))), .val (.int (0 : Int32)), .unset] [(.int (1 : Int32)), (.int (own_f1 ((p1 ||| ((286331153 : Int32) &&& (((1 : Int32) <<< ((4 : Int32) &&& 31)) - (1 : Int32)))) &&& (((15 : Int32) <<< ((4 : Int32) &&& 31)) ^^^ (-1 : Int32)))))])) _
            refine XS.icmpYes X23.here hx rfl (pc0 := 82) (pc' := 89) rfl (hb hby at_82) rfl (feq hc8).2 (by decide) (by decide) ?_
            show Steps p.tables e below (T23.setTop (mkF m 89 #[.val (.int p1), .val (.int p2), .val (.int (1 : Int32)), .val (.int (((1 : Int32) <<< ((4 : Int32) &&& 31)) - (1 : Int32))), .val (.int (p1 ||| ((286331153 : Int32) &&& (((1 : Int32) <<< ((4 : Int32) &&& 31)) - (1 : Int32))))), .val (.int ((p1 ||| ((286331153 : Int32) &&& (((1 : Int32) <<< ((4 : Int32) &&& 31)) - (1 : Int32)))) &&& (((15 : Int32) <<< ((4 : Int32) &&& 31)) ^^^ (-1 : Int32)))), .val (.int (0 : Int32)), .unset] [])) _
            refine XS.iconst X23.here hx rfl (hb hby at_89) ?_
            show Steps p.tables e below (T23.setTop (mkF m 90 #[.val (.int p1), .val (.int p2), .val (.int (1 : Int32)), .val (.int (((1 : Int32) <<< ((4 : Int32) &&& 31)) - (1 : Int32))), .val (.int (p1 ||| ((286331153 : Int32) &&& (((1 : Int32) <<< ((4 : Int32) &&& 31)) - (1 : Int32))))), .val (.int ((p1 ||| ((286331153 : Int32) &&& (((1 : Int32) <<< ((4 : Int32) &&& 31)) - (1 : Int32)))) &&& (((15 : Int32) <<< ((4 : Int32) &&& 31)) ^^^ (-1 : Int32)))), .val (.int (0 : Int32)), .unset] [(.int (0 : Int32))])) _
            refine XS.istore X23.here hx rfl (hb hby at_90) rfl (l' := #[.val (.int p1), .val (.int p2), .val (.int (1 : Int32)), .val (.int (((1 : Int32) <<< ((4 : Int32) &&& 31)) - (1 : Int32))), .val (.int (p1 ||| ((286331153 : Int32) &&& (((1 : Int32) <<< ((4 : Int32) &&& 31)) - (1 : Int32))))), .val (.int ((p1 ||| ((286331153 : Int32) &&& (((1 : Int32) <<< ((4 : Int32) &&& 31)) - (1 : Int32)))) &&& (((15 : Int32) <<< ((4 : Int32) &&& 31)) ^^^ (-1 : Int32)))), .val (.int (0 : Int32)), .val (.int (0 : Int32))]) rfl ?_
            show Steps p.tables e below (T23.setTop (mkF m 92 #[.val (.int p1), .val (.int p2), .val (.int (1 : Int32)), .val (.int (((1 : Int32) <<< ((4 : Int32) &&& 31)) - (1 : Int32))), .val (.int (p1 ||| ((286331153 : Int32) &&& (((1 : Int32) <<< ((4 : Int32) &&& 31)) - (1 : Int32))))), .val (.int ((p1 ||| ((286331153 : Int32) &&& (((1 : Int32) <<< ((4 : Int32) &&& 31)) - (1 : Int32)))) &&& (((15 : Int32) <<< ((4 : Int32) &&& 31)) ^^^ (-1 : Int32)))), .val (.int (0 : Int32)), .val (.int (0 : Int32))] [])) _
            refine XS.iload X23.here hx rfl (hb hby at_92) rfl ?_
            show Steps p.tables e below (T23.setTop (mkF m 94 #[.val (.int p1), .val (.int p2), .val (.int (1 : Int32)), .val (.int (((1 : Int32) <<< ((4 : Int32) &&& 31)) - (1 : Int32))), .val (.int (p1 ||| ((286331153 : Int32) &&& (((1 : Int32) <<< ((4 : Int32) &&& 31)) - (1 : Int32))))), .val (.int ((p1 ||| ((286331153 : Int32) &&& (((1 : Int32) <<< ((4 : Int32) &&& 31)) - (1 : Int32)))) &&& (((15 : Int32) <<< ((4 : Int32) &&& 31)) ^^^ (-1 : Int32)))), .val (.int (0 : Int32)), .val (.int (0 : Int32))] [(.int (0 : Int32))])) _
            refine XS.ifYes X23.here hx rfl (pc0 := 94) (pc' := 106) rfl (hb hby at_94) rfl ((if0 _ _).trans (teq (by decide : (0 : Int32) = (0 : Int32))).1) (by decide) (by decide) ?_
            show Steps p.tables e below (T23.setTop (mkF m 106 #[.val (.int p1), .val (.int p2), .val (.int (1 : Int32)), .val (.int (((1 : Int32) <<< ((4 : Int32) &&& 31)) - (1 : Int32))), .val (.int (p1 ||| ((286331153 : Int32) &&& (((1 : Int32) <<< ((4 : Int32) &&& 31)) - (1 : Int32))))), .val (.int ((p1 ||| ((286331153 : Int32) &&& (((1 : Int32) <<< ((4 : Int32) &&& 31)) - (1 : Int32)))) &&& (((15 : Int32) <<< ((4 : Int32) &&& 31)) ^^^ (-1 : Int32)))), .val (.int (0 : Int32)), .val (.int (0 : Int32))] [])) _
            refine XS.iconst X23.here hx rfl (hb hby at_106) ?_
            show Steps p.tables e below (T23.setTop (mkF m 107 #[.val (.int p1), .val (.int p2), .val (.int (1 : Int32)), .val (.int (((1 : Int32) <<< ((4 : Int32) &&& 31)) - (1 : Int32))), .val (.int (p1 ||| ((286331153 : Int32) &&& (((1 : Int32) <<< ((4 : Int32) &&& 31)) - (1 : Int32))))), .val (.int ((p1 ||| ((286331153 : Int32) &&& (((1 : Int32) <<< ((4 : Int32) &&& 31)) - (1 : Int32)))) &&& (((15 : Int32) <<< ((4 : Int32) &&& 31)) ^^^ (-1 : Int32)))), .val (.int (0 : Int32)), .val (.int (0 : Int32))] [(.int (0 : Int32))])) _
            exact retN X23 hx (t := .boolean) Bd.returns (by simp) (hb hby at_107) hr
          · show own_Q0 Z p1 p2 h0 n0 _ T23.heap _
            rw [e23]
            exact ⟨(by rw [own_f0, if_neg hc1, if_pos hc5, if_neg hc6, if_neg hc8]), N24⟩
    ·
      by_cases hc9 : ((p2 &&& (2147483647 : Int32)) - ((p2 &&& (2147483647 : Int32)) / (9 : Int32)) * (9 : Int32)) = (2 : Int32)
      ·
        have k26 : ∀ t, Steps p.tables e below (s₁.setTop (mkF m 7 #[.val (.int p1), .val (.int p2), .unset, .unset, .unset, .unset, .unset, .unset] [(.int (2 : Int32))])) t → Steps p.tables e below (s₁.setTop (entryFrame m #[(.int p1), (.int p2)] maxLocals)) t := by
          intro t kt
          refine k1 t ?_
          rw [hc9]
          exact kt
        obtain ⟨v27, _, ⟨T27, L27, k27, n27⟩, -, X27, ⟨Lc27, hQ27, l27, y27, z27⟩, st27⟩ := Jvm.LawKit.callS X0 hx (y := (⟨"com/example/kerb/kerb/txn/SoleLocks", "length", "(I)I"⟩ : MethodName)) hown (mvT hZ (hw _ (List.mem_of_getElem? (i := 2) rfl))) (mvT hZ (hw _ (List.mem_of_getElem? (i := 3) rfl))) (mvT hZ (hw _ (List.mem_of_getElem? (i := 4) rfl))) (mvT hZ (hw _ (List.mem_of_getElem? (i := 5) rfl))) (by decide) (backOf (W := 0) (own_rm1 l Z a0 hw [] p1 h0 n0 Z0) hZ (hw _ (List.mem_of_getElem? (i := 5) rfl)) (hw _ (List.mem_of_getElem? (i := 4) rfl)) (by decide) (by decide)) (g := (mkF m 59 #[.val (.int p1), .val (.int p2), .val (.int (2 : Int32)), .val (.int (((1 : Int32) <<< ((8 : Int32) &&& 31)) - (1 : Int32))), .val (.int (p1 ||| ((286331153 : Int32) &&& (((1 : Int32) <<< ((8 : Int32) &&& 31)) - (1 : Int32))))), .val (.int ((p1 ||| ((286331153 : Int32) &&& (((1 : Int32) <<< ((8 : Int32) &&& 31)) - (1 : Int32)))) &&& (((15 : Int32) <<< ((8 : Int32) &&& 31)) ^^^ (-1 : Int32)))), .unset, .unset] [(.int p1)])) rfl (by rw [hml]; rfl) (argsL := [(.int p1)]) (rest := []) (lenOf own_pd69 rfl) rfl (by show 2 * 0 + _ ≤ _; exact Nat.le_of_eq rfl) (hb hby at_59) (fun _ _ => ⟨rfl, e0, (by decide : 0 + 0 ≤ _), (by decide : 0 + 0 ≤ _)⟩)
        dsimp only [Pt.U, Pt.locs, Pt.cells, Pt.slots] at X27 l27 y27 z27 st27 hQ27
        subst l27 y27 z27
        obtain ⟨rfl, N27q, e27⟩ := hQ27
        have N28 := Fr.app N0 N27q
        obtain ⟨v29, _, ⟨T29, L29, k29, n29⟩, -, X29, ⟨Lc29, hQ29, l29, y29, z29⟩, st29⟩ := Jvm.LawKit.callS X27 hx (y := (⟨"com/example/kerb/kerb/txn/SoleLocksLengthPinLaw", "ref", "(I)I"⟩ : MethodName)) hown (mvT hZ (hw _ (List.mem_of_getElem? (i := 6) rfl))) (mvT hZ (hw _ (List.mem_of_getElem? (i := 7) rfl))) (mvT hZ (hw _ (List.mem_of_getElem? (i := 8) rfl))) (mvT hZ (hw _ (List.mem_of_getElem? (i := 9) rfl))) (by decide) (backOf (W := 1) (own_rm2 l Z a0 hw [] p1 h0 n0 Z0) hZ (hw _ (List.mem_of_getElem? (i := 9) rfl)) (hw _ (List.mem_of_getElem? (i := 8) rfl)) (by decide) (by decide)) (g := (mkF m 63 #[.val (.int p1), .val (.int p2), .val (.int (2 : Int32)), .val (.int (((1 : Int32) <<< ((8 : Int32) &&& 31)) - (1 : Int32))), .val (.int (p1 ||| ((286331153 : Int32) &&& (((1 : Int32) <<< ((8 : Int32) &&& 31)) - (1 : Int32))))), .val (.int ((p1 ||| ((286331153 : Int32) &&& (((1 : Int32) <<< ((8 : Int32) &&& 31)) - (1 : Int32)))) &&& (((15 : Int32) <<< ((8 : Int32) &&& 31)) ^^^ (-1 : Int32)))), .unset, .unset] [(.int p1), (.int (own_f1 p1))])) rfl (by rw [hml]; rfl) (argsL := [(.int p1)]) (rest := [(.int (own_f1 p1))]) (lenOf own_pd69 rfl) rfl (by show 2 * 0 + _ ≤ _; exact Nat.le_of_eq rfl) (hb hby at_63) (fun _ _ => ⟨rfl, e27, (by decide : 0 + 0 ≤ _), (by decide : 0 + 0 ≤ _)⟩)
        dsimp only [Pt.U, Pt.locs, Pt.cells, Pt.slots] at X29 l29 y29 z29 st29 hQ29
        subst l29 y29 z29
        obtain ⟨rfl, N29q, e29⟩ := hQ29
        have N30 := Fr.app N28 N29q
        have k31 : ∀ t, Steps p.tables e below (T29.setTop (mkF m 66 #[.val (.int p1), .val (.int p2), .val (.int (2 : Int32)), .val (.int (((1 : Int32) <<< ((8 : Int32) &&& 31)) - (1 : Int32))), .val (.int (p1 ||| ((286331153 : Int32) &&& (((1 : Int32) <<< ((8 : Int32) &&& 31)) - (1 : Int32))))), .val (.int ((p1 ||| ((286331153 : Int32) &&& (((1 : Int32) <<< ((8 : Int32) &&& 31)) - (1 : Int32)))) &&& (((15 : Int32) <<< ((8 : Int32) &&& 31)) ^^^ (-1 : Int32)))), .unset, .unset] [(.int (own_f2 p1)), (.int (own_f1 p1))])) t → Steps p.tables e below (s₁.setTop (entryFrame m #[(.int p1), (.int p2)] maxLocals)) t := by
          intro t kt
          refine k26 t ?_
          show Steps p.tables e below (s₁.setTop (mkF m 7 #[.val (.int p1), .val (.int p2), .unset, .unset, .unset, .unset, .unset, .unset] [(.int (2 : Int32))])) _
          refine XS.istoreN X0.here hx rfl (hb hby at_7) rfl (l' := #[.val (.int p1), .val (.int p2), .val (.int (2 : Int32)), .unset, .unset, .unset, .unset, .unset]) rfl ?_
          show Steps p.tables e below (s₁.setTop (mkF m 8 #[.val (.int p1), .val (.int p2), .val (.int (2 : Int32)), .unset, .unset, .unset, .unset, .unset] [])) _
          refine XS.iloadN X0.here hx rfl (hb hby at_8) rfl ?_
          show Steps p.tables e below (s₁.setTop (mkF m 9 #[.val (.int p1), .val (.int p2), .val (.int (2 : Int32)), .unset, .unset, .unset, .unset, .unset] [(.int (2 : Int32))])) _
          refine XS.bipush X0.here hx rfl (hb hby at_9) ?_
          show Steps p.tables e below (s₁.setTop (mkF m 11 #[.val (.int p1), .val (.int p2), .val (.int (2 : Int32)), .unset, .unset, .unset, .unset, .unset] [(.int (8 : Int32)), (.int (2 : Int32))])) _
          refine XS.icmpYes X0.here hx rfl (pc0 := 11) (pc' := 18) rfl (hb hby at_11) rfl (feq (by decide : ¬ ((2 : Int32) = (8 : Int32)))).2 (by decide) (by decide) ?_
          show Steps p.tables e below (s₁.setTop (mkF m 18 #[.val (.int p1), .val (.int p2), .val (.int (2 : Int32)), .unset, .unset, .unset, .unset, .unset] [])) _
          refine XS.iconst X0.here hx rfl (hb hby at_18) ?_
          show Steps p.tables e below (s₁.setTop (mkF m 19 #[.val (.int p1), .val (.int p2), .val (.int (2 : Int32)), .unset, .unset, .unset, .unset, .unset] [(.int (1 : Int32))])) _
          refine XS.iconst X0.here hx rfl (hb hby at_19) ?_
          show Steps p.tables e below (s₁.setTop (mkF m 20 #[.val (.int p1), .val (.int p2), .val (.int (2 : Int32)), .unset, .unset, .unset, .unset, .unset] [(.int (4 : Int32)), (.int (1 : Int32))])) _
          refine XS.iloadN X0.here hx rfl (hb hby at_20) rfl ?_
          show Steps p.tables e below (s₁.setTop (mkF m 21 #[.val (.int p1), .val (.int p2), .val (.int (2 : Int32)), .unset, .unset, .unset, .unset, .unset] [(.int (2 : Int32)), (.int (4 : Int32)), (.int (1 : Int32))])) _
          refine XS.imul X0.here hx rfl (hb hby at_21) rfl ?_
          show Steps p.tables e below (s₁.setTop (mkF m 22 #[.val (.int p1), .val (.int p2), .val (.int (2 : Int32)), .unset, .unset, .unset, .unset, .unset] [(.int (8 : Int32)), (.int (1 : Int32))])) _
          refine XS.ishl X0.here hx rfl (hb hby at_22) rfl ?_
          show Steps p.tables e below (s₁.setTop (mkF m 23 #[.val (.int p1), .val (.int p2), .val (.int (2 : Int32)), .unset, .unset, .unset, .unset, .unset] [(.int ((1 : Int32) <<< ((8 : Int32) &&& 31)))])) _
          refine XS.iconst X0.here hx rfl (hb hby at_23) ?_
          show Steps p.tables e below (s₁.setTop (mkF m 24 #[.val (.int p1), .val (.int p2), .val (.int (2 : Int32)), .unset, .unset, .unset, .unset, .unset] [(.int (1 : Int32)), (.int ((1 : Int32) <<< ((8 : Int32) &&& 31)))])) _
          refine XS.isub X0.here hx rfl (hb hby at_24) rfl ?_
          show Steps p.tables e below (s₁.setTop (mkF m 25 #[.val (.int p1), .val (.int p2), .val (.int (2 : Int32)), .unset, .unset, .unset, .unset, .unset] [(.int (((1 : Int32) <<< ((8 : Int32) &&& 31)) - (1 : Int32)))])) _
          refine XS.istoreN X0.here hx rfl (hb hby at_25) rfl (l' := #[.val (.int p1), .val (.int p2), .val (.int (2 : Int32)), .val (.int (((1 : Int32) <<< ((8 : Int32) &&& 31)) - (1 : Int32))), .unset, .unset, .unset, .unset]) rfl ?_
          show Steps p.tables e below (s₁.setTop (mkF m 26 #[.val (.int p1), .val (.int p2), .val (.int (2 : Int32)), .val (.int (((1 : Int32) <<< ((8 : Int32) &&& 31)) - (1 : Int32))), .unset, .unset, .unset, .unset] [])) _
          refine XS.iloadN X0.here hx rfl (hb hby at_26) rfl ?_
          show Steps p.tables e below (s₁.setTop (mkF m 27 #[.val (.int p1), .val (.int p2), .val (.int (2 : Int32)), .val (.int (((1 : Int32) <<< ((8 : Int32) &&& 31)) - (1 : Int32))), .unset, .unset, .unset, .unset] [(.int p1)])) _
          refine X0.ldcInt hx hown (mvT hZ (hw _ (List.mem_of_getElem? (i := 1) rfl))) (g := (mkF m 27 #[.val (.int p1), .val (.int p2), .val (.int (2 : Int32)), .val (.int (((1 : Int32) <<< ((8 : Int32) &&& 31)) - (1 : Int32))), .unset, .unset, .unset, .unset] [(.int p1)])) rfl (hb hby at_27) _ ?_
          show Steps p.tables e below (s₁.setTop (mkF m 29 #[.val (.int p1), .val (.int p2), .val (.int (2 : Int32)), .val (.int (((1 : Int32) <<< ((8 : Int32) &&& 31)) - (1 : Int32))), .unset, .unset, .unset, .unset] [(.int (286331153 : Int32)), (.int p1)])) _
          refine XS.iloadN X0.here hx rfl (hb hby at_29) rfl ?_
          show Steps p.tables e below (s₁.setTop (mkF m 30 #[.val (.int p1), .val (.int p2), .val (.int (2 : Int32)), .val (.int (((1 : Int32) <<< ((8 : Int32) &&& 31)) - (1 : Int32))), .unset, .unset, .unset, .unset] [(.int (((1 : Int32) <<< ((8 : Int32) &&& 31)) - (1 : Int32))), (.int (286331153 : Int32)), (.int p1)])) _
          refine XS.iand X0.here hx rfl (hb hby at_30) rfl ?_
          show Steps p.tables e below (s₁.setTop (mkF m 31 #[.val (.int p1), .val (.int p2), .val (.int (2 : Int32)), .val (.int (((1 : Int32) <<< ((8 : Int32) &&& 31)) - (1 : Int32))), .unset, .unset, .unset, .unset] [(.int ((286331153 : Int32) &&& (((1 : Int32) <<< ((8 : Int32) &&& 31)) - (1 : Int32)))), (.int p1)])) _
          refine XS.ior X0.here hx rfl (hb hby at_31) rfl ?_
          show Steps p.tables e below (s₁.setTop (mkF m 32 #[.val (.int p1), .val (.int p2), .val (.int (2 : Int32)), .val (.int (((1 : Int32) <<< ((8 : Int32) &&& 31)) - (1 : Int32))), .unset, .unset, .unset, .unset] [(.int (p1 ||| ((286331153 : Int32) &&& (((1 : Int32) <<< ((8 : Int32) &&& 31)) - (1 : Int32)))))])) _
          refine XS.istore X0.here hx rfl (hb hby at_32) rfl (l' := #[.val (.int p1), .val (.int p2), .val (.int (2 : Int32)), .val (.int (((1 : Int32) <<< ((8 : Int32) &&& 31)) - (1 : Int32))), .val (.int (p1 ||| ((286331153 : Int32) &&& (((1 : Int32) <<< ((8 : Int32) &&& 31)) - (1 : Int32))))), .unset, .unset, .unset]) rfl ?_
          show Steps p.tables e below (s₁.setTop (mkF m 34 #[.val (.int p1), .val (.int p2), .val (.int (2 : Int32)), .val (.int (((1 : Int32) <<< ((8 : Int32) &&& 31)) - (1 : Int32))), .val (.int (p1 ||| ((286331153 : Int32) &&& (((1 : Int32) <<< ((8 : Int32) &&& 31)) - (1 : Int32))))), .unset, .unset, .unset] [])) _
          refine XS.iloadN X0.here hx rfl (hb hby at_34) rfl ?_
          show Steps p.tables e below (s₁.setTop (mkF m 35 #[.val (.int p1), .val (.int p2), .val (.int (2 : Int32)), .val (.int (((1 : Int32) <<< ((8 : Int32) &&& 31)) - (1 : Int32))), .val (.int (p1 ||| ((286331153 : Int32) &&& (((1 : Int32) <<< ((8 : Int32) &&& 31)) - (1 : Int32))))), .unset, .unset, .unset] [(.int (2 : Int32))])) _
          refine XS.bipush X0.here hx rfl (hb hby at_35) ?_
          show Steps p.tables e below (s₁.setTop (mkF m 37 #[.val (.int p1), .val (.int p2), .val (.int (2 : Int32)), .val (.int (((1 : Int32) <<< ((8 : Int32) &&& 31)) - (1 : Int32))), .val (.int (p1 ||| ((286331153 : Int32) &&& (((1 : Int32) <<< ((8 : Int32) &&& 31)) - (1 : Int32))))), .unset, .unset, .unset] [(.int (8 : Int32)), (.int (2 : Int32))])) _
          refine XS.icmpYes X0.here hx rfl (pc0 := 37) (pc' := 45) rfl (hb hby at_37) rfl (feq (by decide : ¬ ((2 : Int32) = (8 : Int32)))).2 (by decide) (by decide) ?_
          show Steps p.tables e below (s₁.setTop (mkF m 45 #[.val (.int p1), .val (.int p2), .val (.int (2 : Int32)), .val (.int (((1 : Int32) <<< ((8 : Int32) &&& 31)) - (1 : Int32))), .val (.int (p1 ||| ((286331153 : Int32) &&& (((1 : Int32) <<< ((8 : Int32) &&& 31)) - (1 : Int32))))), .unset, .unset, .unset] [])) _
          refine XS.iload X0.here hx rfl (hb hby at_45) rfl ?_
          show Steps p.tables e below (s₁.setTop (mkF m 47 #[.val (.int p1), .val (.int p2), .val (.int (2 : Int32)), .val (.int (((1 : Int32) <<< ((8 : Int32) &&& 31)) - (1 : Int32))), .val (.int (p1 ||| ((286331153 : Int32) &&& (((1 : Int32) <<< ((8 : Int32) &&& 31)) - (1 : Int32))))), .unset, .unset, .unset] [(.int (p1 ||| ((286331153 : Int32) &&& (((1 : Int32) <<< ((8 : Int32) &&& 31)) - (1 : Int32)))))])) _
          refine XS.bipush X0.here hx rfl (hb hby at_47) ?_
          show Steps p.tables e below (s₁.setTop (mkF m 49 #[.val (.int p1), .val (.int p2), .val (.int (2 : Int32)), .val (.int (((1 : Int32) <<< ((8 : Int32) &&& 31)) - (1 : Int32))), .val (.int (p1 ||| ((286331153 : Int32) &&& (((1 : Int32) <<< ((8 : Int32) &&& 31)) - (1 : Int32))))), .unset, .unset, .unset] [(.int (15 : Int32)), (.int (p1 ||| ((286331153 : Int32) &&& (((1 : Int32) <<< ((8 : Int32) &&& 31)) - (1 : Int32)))))])) _
          refine XS.iconst X0.here hx rfl (hb hby at_49) ?_
          show Steps p.tables e below (s₁.setTop (mkF m 50 #[.val (.int p1), .val (.int p2), .val (.int (2 : Int32)), .val (.int (((1 : Int32) <<< ((8 : Int32) &&& 31)) - (1 : Int32))), .val (.int (p1 ||| ((286331153 : Int32) &&& (((1 : Int32) <<< ((8 : Int32) &&& 31)) - (1 : Int32))))), .unset, .unset, .unset] [(.int (4 : Int32)), (.int (15 : Int32)), (.int (p1 ||| ((286331153 : Int32) &&& (((1 : Int32) <<< ((8 : Int32) &&& 31)) - (1 : Int32)))))])) _
          refine XS.iloadN X0.here hx rfl (hb hby at_50) rfl ?_
          show Steps p.tables e below (s₁.setTop (mkF m 51 #[.val (.int p1), .val (.int p2), .val (.int (2 : Int32)), .val (.int (((1 : Int32) <<< ((8 : Int32) &&& 31)) - (1 : Int32))), .val (.int (p1 ||| ((286331153 : Int32) &&& (((1 : Int32) <<< ((8 : Int32) &&& 31)) - (1 : Int32))))), .unset, .unset, .unset] [(.int (2 : Int32)), (.int (4 : Int32)), (.int (15 : Int32)), (.int (p1 ||| ((286331153 : Int32) &&& (((1 : Int32) <<< ((8 : Int32) &&& 31)) - (1 : Int32)))))])) _
          refine XS.imul X0.here hx rfl (hb hby at_51) rfl ?_
          show Steps p.tables e below (s₁.setTop (mkF m 52 #[.val (.int p1), .val (.int p2), .val (.int (2 : Int32)), .val (.int (((1 : Int32) <<< ((8 : Int32) &&& 31)) - (1 : Int32))), .val (.int (p1 ||| ((286331153 : Int32) &&& (((1 : Int32) <<< ((8 : Int32) &&& 31)) - (1 : Int32))))), .unset, .unset, .unset] [(.int (8 : Int32)), (.int (15 : Int32)), (.int (p1 ||| ((286331153 : Int32) &&& (((1 : Int32) <<< ((8 : Int32) &&& 31)) - (1 : Int32)))))])) _
          refine XS.ishl X0.here hx rfl (hb hby at_52) rfl ?_
          show Steps p.tables e below (s₁.setTop (mkF m 53 #[.val (.int p1), .val (.int p2), .val (.int (2 : Int32)), .val (.int (((1 : Int32) <<< ((8 : Int32) &&& 31)) - (1 : Int32))), .val (.int (p1 ||| ((286331153 : Int32) &&& (((1 : Int32) <<< ((8 : Int32) &&& 31)) - (1 : Int32))))), .unset, .unset, .unset] [(.int ((15 : Int32) <<< ((8 : Int32) &&& 31))), (.int (p1 ||| ((286331153 : Int32) &&& (((1 : Int32) <<< ((8 : Int32) &&& 31)) - (1 : Int32)))))])) _
          refine XS.iconst X0.here hx rfl (hb hby at_53) ?_
          show Steps p.tables e below (s₁.setTop (mkF m 54 #[.val (.int p1), .val (.int p2), .val (.int (2 : Int32)), .val (.int (((1 : Int32) <<< ((8 : Int32) &&& 31)) - (1 : Int32))), .val (.int (p1 ||| ((286331153 : Int32) &&& (((1 : Int32) <<< ((8 : Int32) &&& 31)) - (1 : Int32))))), .unset, .unset, .unset] [(.int (-1 : Int32)), (.int ((15 : Int32) <<< ((8 : Int32) &&& 31))), (.int (p1 ||| ((286331153 : Int32) &&& (((1 : Int32) <<< ((8 : Int32) &&& 31)) - (1 : Int32)))))])) _
          refine XS.ixor X0.here hx rfl (hb hby at_54) rfl ?_
          show Steps p.tables e below (s₁.setTop (mkF m 55 #[.val (.int p1), .val (.int p2), .val (.int (2 : Int32)), .val (.int (((1 : Int32) <<< ((8 : Int32) &&& 31)) - (1 : Int32))), .val (.int (p1 ||| ((286331153 : Int32) &&& (((1 : Int32) <<< ((8 : Int32) &&& 31)) - (1 : Int32))))), .unset, .unset, .unset] [(.int (((15 : Int32) <<< ((8 : Int32) &&& 31)) ^^^ (-1 : Int32))), (.int (p1 ||| ((286331153 : Int32) &&& (((1 : Int32) <<< ((8 : Int32) &&& 31)) - (1 : Int32)))))])) _
          refine XS.iand X0.here hx rfl (hb hby at_55) rfl ?_
          show Steps p.tables e below (s₁.setTop (mkF m 56 #[.val (.int p1), .val (.int p2), .val (.int (2 : Int32)), .val (.int (((1 : Int32) <<< ((8 : Int32) &&& 31)) - (1 : Int32))), .val (.int (p1 ||| ((286331153 : Int32) &&& (((1 : Int32) <<< ((8 : Int32) &&& 31)) - (1 : Int32))))), .unset, .unset, .unset] [(.int ((p1 ||| ((286331153 : Int32) &&& (((1 : Int32) <<< ((8 : Int32) &&& 31)) - (1 : Int32)))) &&& (((15 : Int32) <<< ((8 : Int32) &&& 31)) ^^^ (-1 : Int32))))])) _
          refine XS.istore X0.here hx rfl (hb hby at_56) rfl (l' := #[.val (.int p1), .val (.int p2), .val (.int (2 : Int32)), .val (.int (((1 : Int32) <<< ((8 : Int32) &&& 31)) - (1 : Int32))), .val (.int (p1 ||| ((286331153 : Int32) &&& (((1 : Int32) <<< ((8 : Int32) &&& 31)) - (1 : Int32))))), .val (.int ((p1 ||| ((286331153 : Int32) &&& (((1 : Int32) <<< ((8 : Int32) &&& 31)) - (1 : Int32)))) &&& (((15 : Int32) <<< ((8 : Int32) &&& 31)) ^^^ (-1 : Int32)))), .unset, .unset]) rfl ?_
          show Steps p.tables e below (s₁.setTop (mkF m 58 #[.val (.int p1), .val (.int p2), .val (.int (2 : Int32)), .val (.int (((1 : Int32) <<< ((8 : Int32) &&& 31)) - (1 : Int32))), .val (.int (p1 ||| ((286331153 : Int32) &&& (((1 : Int32) <<< ((8 : Int32) &&& 31)) - (1 : Int32))))), .val (.int ((p1 ||| ((286331153 : Int32) &&& (((1 : Int32) <<< ((8 : Int32) &&& 31)) - (1 : Int32)))) &&& (((15 : Int32) <<< ((8 : Int32) &&& 31)) ^^^ (-1 : Int32)))), .unset, .unset] [])) _
          refine XS.iloadN X0.here hx rfl (hb hby at_58) rfl ?_
          show Steps p.tables e below (s₁.setTop (mkF m 59 #[.val (.int p1), .val (.int p2), .val (.int (2 : Int32)), .val (.int (((1 : Int32) <<< ((8 : Int32) &&& 31)) - (1 : Int32))), .val (.int (p1 ||| ((286331153 : Int32) &&& (((1 : Int32) <<< ((8 : Int32) &&& 31)) - (1 : Int32))))), .val (.int ((p1 ||| ((286331153 : Int32) &&& (((1 : Int32) <<< ((8 : Int32) &&& 31)) - (1 : Int32)))) &&& (((15 : Int32) <<< ((8 : Int32) &&& 31)) ^^^ (-1 : Int32)))), .unset, .unset] [(.int p1)])) _
          refine st27 _ ?_
          show Steps p.tables e below (T27.setTop (mkF m 62 #[.val (.int p1), .val (.int p2), .val (.int (2 : Int32)), .val (.int (((1 : Int32) <<< ((8 : Int32) &&& 31)) - (1 : Int32))), .val (.int (p1 ||| ((286331153 : Int32) &&& (((1 : Int32) <<< ((8 : Int32) &&& 31)) - (1 : Int32))))), .val (.int ((p1 ||| ((286331153 : Int32) &&& (((1 : Int32) <<< ((8 : Int32) &&& 31)) - (1 : Int32)))) &&& (((15 : Int32) <<< ((8 : Int32) &&& 31)) ^^^ (-1 : Int32)))), .unset, .unset] [(.int (own_f1 p1))])) _
          refine XS.iloadN X27.here hx rfl (hb hby at_62) rfl ?_
          show Steps p.tables e below (T27.setTop (mkF m 63 #[.val (.int p1), .val (.int p2), .val (.int (2 : Int32)), .val (.int (((1 : Int32) <<< ((8 : Int32) &&& 31)) - (1 : Int32))), .val (.int (p1 ||| ((286331153 : Int32) &&& (((1 : Int32) <<< ((8 : Int32) &&& 31)) - (1 : Int32))))), .val (.int ((p1 ||| ((286331153 : Int32) &&& (((1 : Int32) <<< ((8 : Int32) &&& 31)) - (1 : Int32)))) &&& (((15 : Int32) <<< ((8 : Int32) &&& 31)) ^^^ (-1 : Int32)))), .unset, .unset] [(.int p1), (.int (own_f1 p1))])) _
          refine st29 _ ?_
          exact kt
        by_cases hc10 : (own_f1 p1) = (own_f2 p1)
        ·
          obtain ⟨v32, _, ⟨T32, L32, k32, n32⟩, -, X32, ⟨Lc32, hQ32, l32, y32, z32⟩, st32⟩ := Jvm.LawKit.callS X29 hx (y := (⟨"com/example/kerb/kerb/txn/SoleLocks", "length", "(I)I"⟩ : MethodName)) hown (mvT hZ (hw _ (List.mem_of_getElem? (i := 2) rfl))) (mvT hZ (hw _ (List.mem_of_getElem? (i := 3) rfl))) (mvT hZ (hw _ (List.mem_of_getElem? (i := 4) rfl))) (mvT hZ (hw _ (List.mem_of_getElem? (i := 5) rfl))) (by decide) (backOf (W := 0) (own_rm1 l Z a0 hw [] ((p1 ||| ((286331153 : Int32) &&& (((1 : Int32) <<< ((8 : Int32) &&& 31)) - (1 : Int32)))) &&& (((15 : Int32) <<< ((8 : Int32) &&& 31)) ^^^ (-1 : Int32))) h0 n0 Z0) hZ (hw _ (List.mem_of_getElem? (i := 5) rfl)) (hw _ (List.mem_of_getElem? (i := 4) rfl)) (by decide) (by decide)) (g := (mkF m 78 #[.val (.int p1), .val (.int p2), .val (.int (2 : Int32)), .val (.int (((1 : Int32) <<< ((8 : Int32) &&& 31)) - (1 : Int32))), .val (.int (p1 ||| ((286331153 : Int32) &&& (((1 : Int32) <<< ((8 : Int32) &&& 31)) - (1 : Int32))))), .val (.int ((p1 ||| ((286331153 : Int32) &&& (((1 : Int32) <<< ((8 : Int32) &&& 31)) - (1 : Int32)))) &&& (((15 : Int32) <<< ((8 : Int32) &&& 31)) ^^^ (-1 : Int32)))), .val (.int (1 : Int32)), .unset] [(.int ((p1 ||| ((286331153 : Int32) &&& (((1 : Int32) <<< ((8 : Int32) &&& 31)) - (1 : Int32)))) &&& (((15 : Int32) <<< ((8 : Int32) &&& 31)) ^^^ (-1 : Int32))))])) rfl (by rw [hml]; rfl) (argsL := [(.int ((p1 ||| ((286331153 : Int32) &&& (((1 : Int32) <<< ((8 : Int32) &&& 31)) - (1 : Int32)))) &&& (((15 : Int32) <<< ((8 : Int32) &&& 31)) ^^^ (-1 : Int32))))]) (rest := []) (lenOf own_pd69 rfl) rfl (by show 2 * 0 + _ ≤ _; exact Nat.le_of_eq rfl) (hb hby at_78) (fun _ _ => ⟨rfl, e29, (by decide : 0 + 0 ≤ _), (by decide : 0 + 0 ≤ _)⟩)
          dsimp only [Pt.U, Pt.locs, Pt.cells, Pt.slots] at X32 l32 y32 z32 st32 hQ32
          subst l32 y32 z32
          obtain ⟨rfl, N32q, e32⟩ := hQ32
          have N33 := Fr.app N30 N32q
          have k34 : ∀ t, Steps p.tables e below (T32.setTop (mkF m 82 #[.val (.int p1), .val (.int p2), .val (.int (2 : Int32)), .val (.int (((1 : Int32) <<< ((8 : Int32) &&& 31)) - (1 : Int32))), .val (.int (p1 ||| ((286331153 : Int32) &&& (((1 : Int32) <<< ((8 : Int32) &&& 31)) - (1 : Int32))))), .val (.int ((p1 ||| ((286331153 : Int32) &&& (((1 : Int32) <<< ((8 : Int32) &&& 31)) - (1 : Int32)))) &&& (((15 : Int32) <<< ((8 : Int32) &&& 31)) ^^^ (-1 : Int32)))), .val (.int (1 : Int32)), .unset] [(.int (2 : Int32)), (.int (own_f1 ((p1 ||| ((286331153 : Int32) &&& (((1 : Int32) <<< ((8 : Int32) &&& 31)) - (1 : Int32)))) &&& (((15 : Int32) <<< ((8 : Int32) &&& 31)) ^^^ (-1 : Int32)))))])) t → Steps p.tables e below (s₁.setTop (entryFrame m #[(.int p1), (.int p2)] maxLocals)) t := by
            intro t kt
            refine k31 t ?_
            show Steps p.tables e below (T29.setTop (mkF m 66 #[.val (.int p1), .val (.int p2), .val (.int (2 : Int32)), .val (.int (((1 : Int32) <<< ((8 : Int32) &&& 31)) - (1 : Int32))), .val (.int (p1 ||| ((286331153 : Int32) &&& (((1 : Int32) <<< ((8 : Int32) &&& 31)) - (1 : Int32))))), .val (.int ((p1 ||| ((286331153 : Int32) &&& (((1 : Int32) <<< ((8 : Int32) &&& 31)) - (1 : Int32)))) &&& (((15 : Int32) <<< ((8 : Int32) &&& 31)) ^^^ (-1 : Int32)))), .unset, .unset] [(.int (own_f2 p1)), (.int (own_f1 p1))])) _
            refine XS.icmpNo X29.here hx rfl (hb hby at_66) rfl (teq hc10).2 ?_
            show Steps p.tables e below (T29.setTop (mkF m 69 #[.val (.int p1), .val (.int p2), .val (.int (2 : Int32)), .val (.int (((1 : Int32) <<< ((8 : Int32) &&& 31)) - (1 : Int32))), .val (.int (p1 ||| ((286331153 : Int32) &&& (((1 : Int32) <<< ((8 : Int32) &&& 31)) - (1 : Int32))))), .val (.int ((p1 ||| ((286331153 : Int32) &&& (((1 : Int32) <<< ((8 : Int32) &&& 31)) - (1 : Int32)))) &&& (((15 : Int32) <<< ((8 : Int32) &&& 31)) ^^^ (-1 : Int32)))), .unset, .unset] [])) _
            refine XS.iconst X29.here hx rfl (hb hby at_69) ?_
            show Steps p.tables e below (T29.setTop (mkF m 70 #[.val (.int p1), .val (.int p2), .val (.int (2 : Int32)), .val (.int (((1 : Int32) <<< ((8 : Int32) &&& 31)) - (1 : Int32))), .val (.int (p1 ||| ((286331153 : Int32) &&& (((1 : Int32) <<< ((8 : Int32) &&& 31)) - (1 : Int32))))), .val (.int ((p1 ||| ((286331153 : Int32) &&& (((1 : Int32) <<< ((8 : Int32) &&& 31)) - (1 : Int32)))) &&& (((15 : Int32) <<< ((8 : Int32) &&& 31)) ^^^ (-1 : Int32)))), .unset, .unset] [(.int (1 : Int32))])) _
            refine XS.goto X29.here hx rfl (pc0 := 70) (pc' := 74) rfl (hb hby at_70) (by decide) (by decide) ?_
            show Steps p.tables e below (T29.setTop (mkF m 74 #[.val (.int p1), .val (.int p2), .val (.int (2 : Int32)), .val (.int (((1 : Int32) <<< ((8 : Int32) &&& 31)) - (1 : Int32))), .val (.int (p1 ||| ((286331153 : Int32) &&& (((1 : Int32) <<< ((8 : Int32) &&& 31)) - (1 : Int32))))), .val (.int ((p1 ||| ((286331153 : Int32) &&& (((1 : Int32) <<< ((8 : Int32) &&& 31)) - (1 : Int32)))) &&& (((15 : Int32) <<< ((8 : Int32) &&& 31)) ^^^ (-1 : Int32)))), .unset, .unset] [(.int (1 : Int32))])) _
            refine XS.istore X29.here hx rfl (hb hby at_74) rfl (l' := #[.val (.int p1), .val (.int p2), .val (.int (2 : Int32)), .val (.int (((1 : Int32) <<< ((8 : Int32) &&& 31)) - (1 : Int32))), .val (.int (p1 ||| ((286331153 : Int32) &&& (((1 : Int32) <<< ((8 : Int32) &&& 31)) - (1 : Int32))))), .val (.int ((p1 ||| ((286331153 : Int32) &&& (((1 : Int32) <<< ((8 : Int32) &&& 31)) - (1 : Int32)))) &&& (((15 : Int32) <<< ((8 : Int32) &&& 31)) ^^^ (-1 : Int32)))), .val (.int (1 : Int32)), .unset]) rfl ?_
            show Steps p.tables e below (T29.setTop (mkF m 76 #[.val (.int p1), .val (.int p2), .val (.int (2 : Int32)), .val (.int (((1 : Int32) <<< ((8 : Int32) &&& 31)) - (1 : Int32))), .val (.int (p1 ||| ((286331153 : Int32) &&& (((1 : Int32) <<< ((8 : Int32) &&& 31)) - (1 : Int32))))), .val (.int ((p1 ||| ((286331153 : Int32) &&& (((1 : Int32) <<< ((8 : Int32) &&& 31)) - (1 : Int32)))) &&& (((15 : Int32) <<< ((8 : Int32) &&& 31)) ^^^ (-1 : Int32)))), .val (.int (1 : Int32)), .unset] [])) _
            refine XS.iload X29.here hx rfl (hb hby at_76) rfl ?_
            show Steps p.tables e below (T29.setTop (mkF m 78 #[.val (.int p1), .val (.int p2), .val (.int (2 : Int32)), .val (.int (((1 : Int32) <<< ((8 : Int32) &&& 31)) - (1 : Int32))), .val (.int (p1 ||| ((286331153 : Int32) &&& (((1 : Int32) <<< ((8 : Int32) &&& 31)) - (1 : Int32))))), .val (.int ((p1 ||| ((286331153 : Int32) &&& (((1 : Int32) <<< ((8 : Int32) &&& 31)) - (1 : Int32)))) &&& (((15 : Int32) <<< ((8 : Int32) &&& 31)) ^^^ (-1 : Int32)))), .val (.int (1 : Int32)), .unset] [(.int ((p1 ||| ((286331153 : Int32) &&& (((1 : Int32) <<< ((8 : Int32) &&& 31)) - (1 : Int32)))) &&& (((15 : Int32) <<< ((8 : Int32) &&& 31)) ^^^ (-1 : Int32))))])) _
            refine st32 _ ?_
            show Steps p.tables e below (T32.setTop (mkF m 81 #[.val (.int p1), .val (.int p2), .val (.int (2 : Int32)), .val (.int (((1 : Int32) <<< ((8 : Int32) &&& 31)) - (1 : Int32))), .val (.int (p1 ||| ((286331153 : Int32) &&& (((1 : Int32) <<< ((8 : Int32) &&& 31)) - (1 : Int32))))), .val (.int ((p1 ||| ((286331153 : Int32) &&& (((1 : Int32) <<< ((8 : Int32) &&& 31)) - (1 : Int32)))) &&& (((15 : Int32) <<< ((8 : Int32) &&& 31)) ^^^ (-1 : Int32)))), .val (.int (1 : Int32)), .unset] [(.int (own_f1 ((p1 ||| ((286331153 : Int32) &&& (((1 : Int32) <<< ((8 : Int32) &&& 31)) - (1 : Int32)))) &&& (((15 : Int32) <<< ((8 : Int32) &&& 31)) ^^^ (-1 : Int32)))))])) _
            refine XS.iloadN X32.here hx rfl (hb hby at_81) rfl ?_
            exact kt
          by_cases hc11 : (own_f1 ((p1 ||| ((286331153 : Int32) &&& (((1 : Int32) <<< ((8 : Int32) &&& 31)) - (1 : Int32)))) &&& (((15 : Int32) <<< ((8 : Int32) &&& 31)) ^^^ (-1 : Int32)))) = (2 : Int32)
          ·
            obtain ⟨fs, hr, hrun, hended, hW, hsame⟩ := X32.leave (v := some (.int (1 : Int32))) (fun h => by rw [Bd.returns] at h; cases h)
            refine ⟨_, _, k34 _ ?_, hrun, hended, _, _, rfl, ?_, ⟨_, rfl⟩, hW, hsame.mono (by decide) (by decide)⟩
            · show Steps p.tables e below (T32.setTop (mkF m 82 #[.val (.int p1), .val (.int p2), .val (.int (2 : Int32)), .val (.int (((1 : Int32) <<< ((8 : Int32) &&& 31)) - (1 : Int32))), .val (.int (p1 ||| ((286331153 : Int32) &&& (((1 : Int32) <<< ((8 : Int32) &&& 31)) - (1 : Int32))))), .val (.int ((p1 ||| ((286331153 : Int32) &&& (((1 : Int32) <<< ((8 : Int32) &&& 31)) - (1 : Int32)))) &&& (((15 : Int32) <<< ((8 : Int32) &&& 31)) ^^^ (-1 : Int32)))), .val (.int (1 : Int32)), .unset] [(.int (2 : Int32)), (.int (own_f1 ((p1 ||| ((286331153 : Int32) &&& (((1 : Int32) <<< ((8 : Int32) &&& 31)) - (1 : Int32)))) &&& (((15 : Int32) <<< ((8 : Int32) &&& 31)) ^^^ (-1 : Int32)))))])) _
              refine XS.icmpNo X32.here hx rfl (hb hby at_82) rfl (teq hc11).2 ?_
              show Steps p.tables e below (T32.setTop (mkF m 85 #[.val (.int p1), .val (.int p2), .val (.int (2 : Int32)), .val (.int (((1 : Int32) <<< ((8 : Int32) &&& 31)) - (1 : Int32))), .val (.int (p1 ||| ((286331153 : Int32) &&& (((1 : Int32) <<< ((8 : Int32) &&& 31)) - (1 : Int32))))), .val (.int ((p1 ||| ((286331153 : Int32) &&& (((1 : Int32) <<< ((8 : Int32) &&& 31)) - (1 : Int32)))) &&& (((15 : Int32) <<< ((8 : Int32) &&& 31)) ^^^ (-1 : Int32)))), .val (.int (1 : Int32)), .unset] [])) _
              refine XS.iconst X32.here hx rfl (hb hby at_85) ?_
              show Steps p.tables e below (T32.setTop (mkF m 86 #[.val (.int p1), .val (.int p2), .val (.int (2 : Int32)), .val (.int (((1 : Int32) <<< ((8 : Int32) &&& 31)) - (1 : Int32))), .val (.int (p1 ||| ((286331153 : Int32) &&& (((1 : Int32) <<< ((8 : Int32) &&& 31)) - (1 : Int32))))), .val (.int ((p1 ||| ((286331153 : Int32) &&& (((1 : Int32) <<< ((8 : Int32) &&& 31)) - (1 : Int32)))) &&& (((15 : Int32) <<< ((8 : Int32) &&& 31)) ^^^ (-1 : Int32)))), .val (.int (1 : Int32)), .unset] [(.int (1 : Int32))])) _
              refine XS.goto X32.here hx rfl (pc0 := 86) (pc' := 90) rfl (hb hby at_86) (by decide) (by decide) ?_
              show Steps p.tables e below (T32.setTop (mkF m 90 #[.val (.int p1), .val (.int p2), .val (.int (2 : Int32)), .val (.int (((1 : Int32) <<< ((8 : Int32) &&& 31)) - (1 : Int32))), .val (.int (p1 ||| ((286331153 : Int32) &&& (((1 : Int32) <<< ((8 : Int32) &&& 31)) - (1 : Int32))))), .val (.int ((p1 ||| ((286331153 : Int32) &&& (((1 : Int32) <<< ((8 : Int32) &&& 31)) - (1 : Int32)))) &&& (((15 : Int32) <<< ((8 : Int32) &&& 31)) ^^^ (-1 : Int32)))), .val (.int (1 : Int32)), .unset] [(.int (1 : Int32))])) _
              refine XS.istore X32.here hx rfl (hb hby at_90) rfl (l' := #[.val (.int p1), .val (.int p2), .val (.int (2 : Int32)), .val (.int (((1 : Int32) <<< ((8 : Int32) &&& 31)) - (1 : Int32))), .val (.int (p1 ||| ((286331153 : Int32) &&& (((1 : Int32) <<< ((8 : Int32) &&& 31)) - (1 : Int32))))), .val (.int ((p1 ||| ((286331153 : Int32) &&& (((1 : Int32) <<< ((8 : Int32) &&& 31)) - (1 : Int32)))) &&& (((15 : Int32) <<< ((8 : Int32) &&& 31)) ^^^ (-1 : Int32)))), .val (.int (1 : Int32)), .val (.int (1 : Int32))]) rfl ?_
              show Steps p.tables e below (T32.setTop (mkF m 92 #[.val (.int p1), .val (.int p2), .val (.int (2 : Int32)), .val (.int (((1 : Int32) <<< ((8 : Int32) &&& 31)) - (1 : Int32))), .val (.int (p1 ||| ((286331153 : Int32) &&& (((1 : Int32) <<< ((8 : Int32) &&& 31)) - (1 : Int32))))), .val (.int ((p1 ||| ((286331153 : Int32) &&& (((1 : Int32) <<< ((8 : Int32) &&& 31)) - (1 : Int32)))) &&& (((15 : Int32) <<< ((8 : Int32) &&& 31)) ^^^ (-1 : Int32)))), .val (.int (1 : Int32)), .val (.int (1 : Int32))] [])) _
              refine XS.iload X32.here hx rfl (hb hby at_92) rfl ?_
              show Steps p.tables e below (T32.setTop (mkF m 94 #[.val (.int p1), .val (.int p2), .val (.int (2 : Int32)), .val (.int (((1 : Int32) <<< ((8 : Int32) &&& 31)) - (1 : Int32))), .val (.int (p1 ||| ((286331153 : Int32) &&& (((1 : Int32) <<< ((8 : Int32) &&& 31)) - (1 : Int32))))), .val (.int ((p1 ||| ((286331153 : Int32) &&& (((1 : Int32) <<< ((8 : Int32) &&& 31)) - (1 : Int32)))) &&& (((15 : Int32) <<< ((8 : Int32) &&& 31)) ^^^ (-1 : Int32)))), .val (.int (1 : Int32)), .val (.int (1 : Int32))] [(.int (1 : Int32))])) _
              refine XS.ifNo X32.here hx rfl (hb hby at_94) rfl ((if0 _ _).trans (feq (by decide : ¬ ((1 : Int32) = (0 : Int32)))).1) ?_
              show Steps p.tables e below (T32.setTop (mkF m 97 #[.val (.int p1), .val (.int p2), .val (.int (2 : Int32)), .val (.int (((1 : Int32) <<< ((8 : Int32) &&& 31)) - (1 : Int32))), .val (.int (p1 ||| ((286331153 : Int32) &&& (((1 : Int32) <<< ((8 : Int32) &&& 31)) - (1 : Int32))))), .val (.int ((p1 ||| ((286331153 : Int32) &&& (((1 : Int32) <<< ((8 : Int32) &&& 31)) - (1 : Int32)))) &&& (((15 : Int32) <<< ((8 : Int32) &&& 31)) ^^^ (-1 : Int32)))), .val (.int (1 : Int32)), .val (.int (1 : Int32))] [])) _
              refine XS.iload X32.here hx rfl (hb hby at_97) rfl ?_
              show Steps p.tables e below (T32.setTop (mkF m 99 #[.val (.int p1), .val (.int p2), .val (.int (2 : Int32)), .val (.int (((1 : Int32) <<< ((8 : Int32) &&& 31)) - (1 : Int32))), .val (.int (p1 ||| ((286331153 : Int32) &&& (((1 : Int32) <<< ((8 : Int32) &&& 31)) - (1 : Int32))))), .val (.int ((p1 ||| ((286331153 : Int32) &&& (((1 : Int32) <<< ((8 : Int32) &&& 31)) - (1 : Int32)))) &&& (((15 : Int32) <<< ((8 : Int32) &&& 31)) ^^^ (-1 : Int32)))), .val (.int (1 : Int32)), .val (.int (1 : Int32))] [(.int (1 : Int32))])) _
              refine XS.ifNo X32.here hx rfl (hb hby at_99) rfl ((if0 _ _).trans (feq (by decide : ¬ ((1 : Int32) = (0 : Int32)))).1) ?_
              show Steps p.tables e below (T32.setTop (mkF m 102 #[.val (.int p1), .val (.int p2), .val (.int (2 : Int32)), .val (.int (((1 : Int32) <<< ((8 : Int32) &&& 31)) - (1 : Int32))), .val (.int (p1 ||| ((286331153 : Int32) &&& (((1 : Int32) <<< ((8 : Int32) &&& 31)) - (1 : Int32))))), .val (.int ((p1 ||| ((286331153 : Int32) &&& (((1 : Int32) <<< ((8 : Int32) &&& 31)) - (1 : Int32)))) &&& (((15 : Int32) <<< ((8 : Int32) &&& 31)) ^^^ (-1 : Int32)))), .val (.int (1 : Int32)), .val (.int (1 : Int32))] [])) _
              refine XS.iconst X32.here hx rfl (hb hby at_102) ?_
              show Steps p.tables e below (T32.setTop (mkF m 103 #[.val (.int p1), .val (.int p2), .val (.int (2 : Int32)), .val (.int (((1 : Int32) <<< ((8 : Int32) &&& 31)) - (1 : Int32))), .val (.int (p1 ||| ((286331153 : Int32) &&& (((1 : Int32) <<< ((8 : Int32) &&& 31)) - (1 : Int32))))), .val (.int ((p1 ||| ((286331153 : Int32) &&& (((1 : Int32) <<< ((8 : Int32) &&& 31)) - (1 : Int32)))) &&& (((15 : Int32) <<< ((8 : Int32) &&& 31)) ^^^ (-1 : Int32)))), .val (.int (1 : Int32)), .val (.int (1 : Int32))] [(.int (1 : Int32))])) _
              refine XS.goto X32.here hx rfl (pc0 := 103) (pc' := 107) rfl (hb hby at_103) (by decide) (by decide) ?_
              show Steps p.tables e below (T32.setTop (mkF m 107 #[.val (.int p1), .val (.int p2), .val (.int (2 : Int32)), .val (.int (((1 : Int32) <<< ((8 : Int32) &&& 31)) - (1 : Int32))), .val (.int (p1 ||| ((286331153 : Int32) &&& (((1 : Int32) <<< ((8 : Int32) &&& 31)) - (1 : Int32))))), .val (.int ((p1 ||| ((286331153 : Int32) &&& (((1 : Int32) <<< ((8 : Int32) &&& 31)) - (1 : Int32)))) &&& (((15 : Int32) <<< ((8 : Int32) &&& 31)) ^^^ (-1 : Int32)))), .val (.int (1 : Int32)), .val (.int (1 : Int32))] [(.int (1 : Int32))])) _
              exact retN X32 hx (t := .boolean) Bd.returns (by simp) (hb hby at_107) hr
            · show own_Q0 Z p1 p2 h0 n0 _ T32.heap _
              rw [e32]
              exact ⟨(by rw [own_f0, if_neg hc1, if_neg hc5, if_pos hc9, if_pos hc10, if_pos hc11]), N33⟩
          ·
            obtain ⟨fs, hr, hrun, hended, hW, hsame⟩ := X32.leave (v := some (.int (0 : Int32))) (fun h => by rw [Bd.returns] at h; cases h)
            refine ⟨_, _, k34 _ ?_, hrun, hended, _, _, rfl, ?_, ⟨_, rfl⟩, hW, hsame.mono (by decide) (by decide)⟩
            · show Steps p.tables e below (T32.setTop (mkF m 82 #[.val (.int p1), .val (.int p2), .val (.int (2 : Int32)), .val (.int (((1 : Int32) <<< ((8 : Int32) &&& 31)) - (1 : Int32))), .val (.int (p1 ||| ((286331153 : Int32) &&& (((1 : Int32) <<< ((8 : Int32) &&& 31)) - (1 : Int32))))), .val (.int ((p1 ||| ((286331153 : Int32) &&& (((1 : Int32) <<< ((8 : Int32) &&& 31)) - (1 : Int32)))) &&& (((15 : Int32) <<< ((8 : Int32) &&& 31)) ^^^ (-1 : Int32)))), .val (.int (1 : Int32)), .unset] [(.int (2 : Int32)), (.int (own_f1 ((p1 ||| ((286331153 : Int32) &&& (((1 : Int32) <<< ((8 : Int32) &&& 31)) - (1 : Int32)))) &&& (((15 : Int32) <<< ((8 : Int32) &&& 31)) ^^^ (-1 : Int32)))))])) _
              refine XS.icmpYes X32.here hx rfl (pc0 := 82) (pc' := 89) rfl (hb hby at_82) rfl (feq hc11).2 (by decide) (by decide) ?_
              show Steps p.tables e below (T32.setTop (mkF m 89 #[.val (.int p1), .val (.int p2), .val (.int (2 : Int32)), .val (.int (((1 : Int32) <<< ((8 : Int32) &&& 31)) - (1 : Int32))), .val (.int (p1 ||| ((286331153 : Int32) &&& (((1 : Int32) <<< ((8 : Int32) &&& 31)) - (1 : Int32))))), .val (.int ((p1 ||| ((286331153 : Int32) &&& (((1 : Int32) <<< ((8 : Int32) &&& 31)) - (1 : Int32)))) &&& (((15 : Int32) <<< ((8 : Int32) &&& 31)) ^^^ (-1 : Int32)))), .val (.int (1 : Int32)), .unset] [])) _
              refine XS.iconst X32.here hx rfl (hb hby at_89) ?_
              show Steps p.tables e below (T32.setTop (mkF m 90 #[.val (.int p1), .val (.int p2), .val (.int (2 : Int32)), .val (.int (((1 : Int32) <<< ((8 : Int32) &&& 31)) - (1 : Int32))), .val (.int (p1 ||| ((286331153 : Int32) &&& (((1 : Int32) <<< ((8 : Int32) &&& 31)) - (1 : Int32))))), .val (.int ((p1 ||| ((286331153 : Int32) &&& (((1 : Int32) <<< ((8 : Int32) &&& 31)) - (1 : Int32)))) &&& (((15 : Int32) <<< ((8 : Int32) &&& 31)) ^^^ (-1 : Int32)))), .val (.int (1 : Int32)), .unset] [(.int (0 : Int32))])) _
              refine XS.istore X32.here hx rfl (hb hby at_90) rfl (l' := #[.val (.int p1), .val (.int p2), .val (.int (2 : Int32)), .val (.int (((1 : Int32) <<< ((8 : Int32) &&& 31)) - (1 : Int32))), .val (.int (p1 ||| ((286331153 : Int32) &&& (((1 : Int32) <<< ((8 : Int32) &&& 31)) - (1 : Int32))))), .val (.int ((p1 ||| ((286331153 : Int32) &&& (((1 : Int32) <<< ((8 : Int32) &&& 31)) - (1 : Int32)))) &&& (((15 : Int32) <<< ((8 : Int32) &&& 31)) ^^^ (-1 : Int32)))), .val (.int (1 : Int32)), .val (.int (0 : Int32))]) rfl ?_
              show Steps p.tables e below (T32.setTop (mkF m 92 #[.val (.int p1), .val (.int p2), .val (.int (2 : Int32)), .val (.int (((1 : Int32) <<< ((8 : Int32) &&& 31)) - (1 : Int32))), .val (.int (p1 ||| ((286331153 : Int32) &&& (((1 : Int32) <<< ((8 : Int32) &&& 31)) - (1 : Int32))))), .val (.int ((p1 ||| ((286331153 : Int32) &&& (((1 : Int32) <<< ((8 : Int32) &&& 31)) - (1 : Int32)))) &&& (((15 : Int32) <<< ((8 : Int32) &&& 31)) ^^^ (-1 : Int32)))), .val (.int (1 : Int32)), .val (.int (0 : Int32))] [])) _
              refine XS.iload X32.here hx rfl (hb hby at_92) rfl ?_
              show Steps p.tables e below (T32.setTop (mkF m 94 #[.val (.int p1), .val (.int p2), .val (.int (2 : Int32)), .val (.int (((1 : Int32) <<< ((8 : Int32) &&& 31)) - (1 : Int32))), .val (.int (p1 ||| ((286331153 : Int32) &&& (((1 : Int32) <<< ((8 : Int32) &&& 31)) - (1 : Int32))))), .val (.int ((p1 ||| ((286331153 : Int32) &&& (((1 : Int32) <<< ((8 : Int32) &&& 31)) - (1 : Int32)))) &&& (((15 : Int32) <<< ((8 : Int32) &&& 31)) ^^^ (-1 : Int32)))), .val (.int (1 : Int32)), .val (.int (0 : Int32))] [(.int (1 : Int32))])) _
              refine XS.ifNo X32.here hx rfl (hb hby at_94) rfl ((if0 _ _).trans (feq (by decide : ¬ ((1 : Int32) = (0 : Int32)))).1) ?_
              show Steps p.tables e below (T32.setTop (mkF m 97 #[.val (.int p1), .val (.int p2), .val (.int (2 : Int32)), .val (.int (((1 : Int32) <<< ((8 : Int32) &&& 31)) - (1 : Int32))), .val (.int (p1 ||| ((286331153 : Int32) &&& (((1 : Int32) <<< ((8 : Int32) &&& 31)) - (1 : Int32))))), .val (.int ((p1 ||| ((286331153 : Int32) &&& (((1 : Int32) <<< ((8 : Int32) &&& 31)) - (1 : Int32)))) &&& (((15 : Int32) <<< ((8 : Int32) &&& 31)) ^^^ (-1 : Int32)))), .val (.int (1 : Int32)), .val (.int (0 : Int32))] [])) _
              refine XS.iload X32.here hx rfl (hb hby at_97) rfl ?_
              show Steps p.tables e below (T32.setTop (mkF m 99 #[.val (.int p1), .val (.int p2), .val (.int (2 : Int32)), .val (.int (((1 : Int32) <<< ((8 : Int32) &&& 31)) - (1 : Int32))), .val (.int (p1 ||| ((286331153 : Int32) &&& (((1 : Int32) <<< ((8 : Int32) &&& 31)) - (1 : Int32))))), .val (.int ((p1 ||| ((286331153 : Int32) &&& (((1 : Int32) <<< ((8 : Int32) &&& 31)) - (1 : Int32)))) &&& (((15 : Int32) <<< ((8 : Int32) &&& 31)) ^^^ (-1 : Int32)))), .val (.int (1 : Int32)), .val (.int (0 : Int32))] [(.int (0 : Int32))])) _
              refine XS.ifYes X32.here hx rfl (pc0 := 99) (pc' := 106) rfl (hb hby at_99) rfl ((if0 _ _).trans (teq (by decide : (0 : Int32) = (0 : Int32))).1) (by decide) (by decide) ?_
              show Steps p.tables e below (T32.setTop (mkF m 106 #[.val (.int p1), .val (.int p2), .val (.int (2 : Int32)), .val (.int (((1 : Int32) <<< ((8 : Int32) &&& 31)) - (1 : Int32))), .val (.int (p1 ||| ((286331153 : Int32) &&& (((1 : Int32) <<< ((8 : Int32) &&& 31)) - (1 : Int32))))), .val (.int ((p1 ||| ((286331153 : Int32) &&& (((1 : Int32) <<< ((8 : Int32) &&& 31)) - (1 : Int32)))) &&& (((15 : Int32) <<< ((8 : Int32) &&& 31)) ^^^ (-1 : Int32)))), .val (.int (1 : Int32)), .val (.int (0 : Int32))] [])) _
              refine XS.iconst X32.here hx rfl (hb hby at_106) ?_
              show Steps p.tables e below (T32.setTop (mkF m 107 #[.val (.int p1), .val (.int p2), .val (.int (2 : Int32)), .val (.int (((1 : Int32) <<< ((8 : Int32) &&& 31)) - (1 : Int32))), .val (.int (p1 ||| ((286331153 : Int32) &&& (((1 : Int32) <<< ((8 : Int32) &&& 31)) - (1 : Int32))))), .val (.int ((p1 ||| ((286331153 : Int32) &&& (((1 : Int32) <<< ((8 : Int32) &&& 31)) - (1 : Int32)))) &&& (((15 : Int32) <<< ((8 : Int32) &&& 31)) ^^^ (-1 : Int32)))), .val (.int (1 : Int32)), .val (.int (0 : Int32))] [(.int (0 : Int32))])) _
              exact retN X32 hx (t := .boolean) Bd.returns (by simp) (hb hby at_107) hr
            · show own_Q0 Z p1 p2 h0 n0 _ T32.heap _
              rw [e32]
              exact ⟨(by rw [own_f0, if_neg hc1, if_neg hc5, if_pos hc9, if_pos hc10, if_neg hc11]), N33⟩
        ·
          obtain ⟨v35, _, ⟨T35, L35, k35, n35⟩, -, X35, ⟨Lc35, hQ35, l35, y35, z35⟩, st35⟩ := Jvm.LawKit.callS X29 hx (y := (⟨"com/example/kerb/kerb/txn/SoleLocks", "length", "(I)I"⟩ : MethodName)) hown (mvT hZ (hw _ (List.mem_of_getElem? (i := 2) rfl))) (mvT hZ (hw _ (List.mem_of_getElem? (i := 3) rfl))) (mvT hZ (hw _ (List.mem_of_getElem? (i := 4) rfl))) (mvT hZ (hw _ (List.mem_of_getElem? (i := 5) rfl))) (by decide) (backOf (W := 0) (own_rm1 l Z a0 hw [] ((p1 ||| ((286331153 : Int32) &&& (((1 : Int32) <<< ((8 : Int32) &&& 31)) - (1 : Int32)))) &&& (((15 : Int32) <<< ((8 : Int32) &&& 31)) ^^^ (-1 : Int32))) h0 n0 Z0) hZ (hw _ (List.mem_of_getElem? (i := 5) rfl)) (hw _ (List.mem_of_getElem? (i := 4) rfl)) (by decide) (by decide)) (g := (mkF m 78 #[.val (.int p1), .val (.int p2), .val (.int (2 : Int32)), .val (.int (((1 : Int32) <<< ((8 : Int32) &&& 31)) - (1 : Int32))), .val (.int (p1 ||| ((286331153 : Int32) &&& (((1 : Int32) <<< ((8 : Int32) &&& 31)) - (1 : Int32))))), .val (.int ((p1 ||| ((286331153 : Int32) &&& (((1 : Int32) <<< ((8 : Int32) &&& 31)) - (1 : Int32)))) &&& (((15 : Int32) <<< ((8 : Int32) &&& 31)) ^^^ (-1 : Int32)))), .val (.int (0 : Int32)), .unset] [(.int ((p1 ||| ((286331153 : Int32) &&& (((1 : Int32) <<< ((8 : Int32) &&& 31)) - (1 : Int32)))) &&& (((15 : Int32) <<< ((8 : Int32) &&& 31)) ^^^ (-1 : Int32))))])) rfl (by rw [hml]; rfl) (argsL := [(.int ((p1 ||| ((286331153 : Int32) &&& (((1 : Int32) <<< ((8 : Int32) &&& 31)) - (1 : Int32)))) &&& (((15 : Int32) <<< ((8 : Int32) &&& 31)) ^^^ (-1 : Int32))))]) (rest := []) (lenOf own_pd69 rfl) rfl (by show 2 * 0 + _ ≤ _; exact Nat.le_of_eq rfl) (hb hby at_78) (fun _ _ => ⟨rfl, e29, (by decide : 0 + 0 ≤ _), (by decide : 0 + 0 ≤ _)⟩)
          dsimp only [Pt.U, Pt.locs, Pt.cells, Pt.slots] at X35 l35 y35 z35 st35 hQ35
          subst l35 y35 z35
          obtain ⟨rfl, N35q, e35⟩ := hQ35
          have N36 := Fr.app N30 N35q
          have k37 : ∀ t, Steps p.tables e below (T35.setTop (mkF m 82 #[.val (.int p1), .val (.int p2), .val (.int (2 : Int32)), .val (.int (((1 : Int32) <<< ((8 : Int32) &&& 31)) - (1 : Int32))), .val (.int (p1 ||| ((286331153 : Int32) &&& (((1 : Int32) <<< ((8 : Int32) &&& 31)) - (1 : Int32))))), .val (.int ((p1 ||| ((286331153 : Int32) &&& (((1 : Int32) <<< ((8 : Int32) &&& 31)) - (1 : Int32)))) &&& (((15 : Int32) <<< ((8 : Int32) &&& 31)) ^^^ (-1 : Int32)))), .val (.int (0 : Int32)), .unset] [(.int (2 : Int32)), (.int (own_f1 ((p1 ||| ((286331153 : Int32) &&& (((1 : Int32) <<< ((8 : Int32) &&& 31)) - (1 : Int32)))) &&& (((15 : Int32) <<< ((8 : Int32) &&& 31)) ^^^ (-1 : Int32)))))])) t → Steps p.tables e below (s₁.setTop (entryFrame m #[(.int p1), (.int p2)] maxLocals)) t := by
            intro t kt
            refine k31 t ?_
            show Steps p.tables e below (T29.setTop (mkF m 66 #[.val (.int p1), .val (.int p2), .val (.int (2 : Int32)), .val (.int (((1 : Int32) <<< ((8 : Int32) &&& 31)) - (1 : Int32))), .val (.int (p1 ||| ((286331153 : Int32) &&& (((1 : Int32) <<< ((8 : Int32) &&& 31)) - (1 : Int32))))), .val (.int ((p1 ||| ((286331153 : Int32) &&& (((1 : Int32) <<< ((8 : Int32) &&& 31)) - (1 : Int32)))) &&& (((15 : Int32) <<< ((8 : Int32) &&& 31)) ^^^ (-1 : Int32)))), .unset, .unset] [(.int (own_f2 p1)), (.int (own_f1 p1))])) _
            refine XS.icmpYes X29.here hx rfl (pc0 := 66) (pc' := 73) rfl (hb hby at_66) rfl (feq hc10).2 (by decide) (by decide) ?_
            show Steps p.tables e below (T29.setTop (mkF m 73 #[.val (.int p1), .val (.int p2), .val (.int (2 : Int32)), .val (.int (((1 : Int32) <<< ((8 : Int32) &&& 31)) - (1 : Int32))), .val (.int (p1 ||| ((286331153 : Int32) &&& (((1 : Int32) <<< ((8 : Int32) &&& 31)) - (1 : Int32))))), .val (.int ((p1 ||| ((286331153 : Int32) &&& (((1 : Int32) <<< ((8 : Int32) &&& 31)) - (1 : Int32)))) &&& (((15 : Int32) <<< ((8 : Int32) &&& 31)) ^^^ (-1 : Int32)))), .unset, .unset] [])) _
            refine XS.iconst X29.here hx rfl (hb hby at_73) ?_
            show Steps p.tables e below (T29.setTop (mkF m 74 #[.val (.int p1), .val (.int p2), .val (.int (2 : Int32)), .val (.int (((1 : Int32) <<< ((8 : Int32) &&& 31)) - (1 : Int32))), .val (.int (p1 ||| ((286331153 : Int32) &&& (((1 : Int32) <<< ((8 : Int32) &&& 31)) - (1 : Int32))))), .val (.int ((p1 ||| ((286331153 : Int32) &&& (((1 : Int32) <<< ((8 : Int32) &&& 31)) - (1 : Int32)))) &&& (((15 : Int32) <<< ((8 : Int32) &&& 31)) ^^^ (-1 : Int32)))), .unset, .unset] [(.int (0 : Int32))])) _
            refine XS.istore X29.here hx rfl (hb hby at_74) rfl (l' := #[.val (.int p1), .val (.int p2), .val (.int (2 : Int32)), .val (.int (((1 : Int32) <<< ((8 : Int32) &&& 31)) - (1 : Int32))), .val (.int (p1 ||| ((286331153 : Int32) &&& (((1 : Int32) <<< ((8 : Int32) &&& 31)) - (1 : Int32))))), .val (.int ((p1 ||| ((286331153 : Int32) &&& (((1 : Int32) <<< ((8 : Int32) &&& 31)) - (1 : Int32)))) &&& (((15 : Int32) <<< ((8 : Int32) &&& 31)) ^^^ (-1 : Int32)))), .val (.int (0 : Int32)), .unset]) rfl ?_
            show Steps p.tables e below (T29.setTop (mkF m 76 #[.val (.int p1), .val (.int p2), .val (.int (2 : Int32)), .val (.int (((1 : Int32) <<< ((8 : Int32) &&& 31)) - (1 : Int32))), .val (.int (p1 ||| ((286331153 : Int32) &&& (((1 : Int32) <<< ((8 : Int32) &&& 31)) - (1 : Int32))))), .val (.int ((p1 ||| ((286331153 : Int32) &&& (((1 : Int32) <<< ((8 : Int32) &&& 31)) - (1 : Int32)))) &&& (((15 : Int32) <<< ((8 : Int32) &&& 31)) ^^^ (-1 : Int32)))), .val (.int (0 : Int32)), .unset] [])) _
            refine XS.iload X29.here hx rfl (hb hby at_76) rfl ?_
            show Steps p.tables e below (T29.setTop (mkF m 78 #[.val (.int p1), .val (.int p2), .val (.int (2 : Int32)), .val (.int (((1 : Int32) <<< ((8 : Int32) &&& 31)) - (1 : Int32))), .val (.int (p1 ||| ((286331153 : Int32) &&& (((1 : Int32) <<< ((8 : Int32) &&& 31)) - (1 : Int32))))), .val (.int ((p1 ||| ((286331153 : Int32) &&& (((1 : Int32) <<< ((8 : Int32) &&& 31)) - (1 : Int32)))) &&& (((15 : Int32) <<< ((8 : Int32) &&& 31)) ^^^ (-1 : Int32)))), .val (.int (0 : Int32)), .unset] [(.int ((p1 ||| ((286331153 : Int32) &&& (((1 : Int32) <<< ((8 : Int32) &&& 31)) - (1 : Int32)))) &&& (((15 : Int32) <<< ((8 : Int32) &&& 31)) ^^^ (-1 : Int32))))])) _
            refine st35 _ ?_
            show Steps p.tables e below (T35.setTop (mkF m 81 #[.val (.int p1), .val (.int p2), .val (.int (2 : Int32)), .val (.int (((1 : Int32) <<< ((8 : Int32) &&& 31)) - (1 : Int32))), .val (.int (p1 ||| ((286331153 : Int32) &&& (((1 : Int32) <<< ((8 : Int32) &&& 31)) - (1 : Int32))))), .val (.int ((p1 ||| ((286331153 : Int32) &&& (((1 : Int32) <<< ((8 : Int32) &&& 31)) - (1 : Int32)))) &&& (((15 : Int32) <<< ((8 : Int32) &&& 31)) ^^^ (-1 : Int32)))), .val (.int (0 : Int32)), .unset] [(.int (own_f1 ((p1 ||| ((286331153 : Int32) &&& (((1 : Int32) <<< ((8 : Int32) &&& 31)) - (1 : Int32)))) &&& (((15 : Int32) <<< ((8 : Int32) &&& 31)) ^^^ (-1 : Int32)))))])) _
            refine XS.iloadN X35.here hx rfl (hb hby at_81) rfl ?_
            exact kt
          by_cases hc12 : (own_f1 ((p1 ||| ((286331153 : Int32) &&& (((1 : Int32) <<< ((8 : Int32) &&& 31)) - (1 : Int32)))) &&& (((15 : Int32) <<< ((8 : Int32) &&& 31)) ^^^ (-1 : Int32)))) = (2 : Int32)
          ·
            obtain ⟨fs, hr, hrun, hended, hW, hsame⟩ := X35.leave (v := some (.int (0 : Int32))) (fun h => by rw [Bd.returns] at h; cases h)
            refine ⟨_, _, k37 _ ?_, hrun, hended, _, _, rfl, ?_, ⟨_, rfl⟩, hW, hsame.mono (by decide) (by decide)⟩
            · show Steps p.tables e below (T35.setTop (mkF m 82 #[.val (.int p1), .val (.int p2), .val (.int (2 : Int32)), .val (.int (((1 : Int32) <<< ((8 : Int32) &&& 31)) - (1 : Int32))), .val (.int (p1 ||| ((286331153 : Int32) &&& (((1 : Int32) <<< ((8 : Int32) &&& 31)) - (1 : Int32))))), .val (.int ((p1 ||| ((286331153 : Int32) &&& (((1 : Int32) <<< ((8 : Int32) &&& 31)) - (1 : Int32)))) &&& (((15 : Int32) <<< ((8 : Int32) &&& 31)) ^^^ (-1 : Int32)))), .val (.int (0 : Int32)), .unset] [(.int (2 : Int32)), (.int (own_f1 ((p1 ||| ((286331153 : Int32) &&& (((1 : Int32) <<< ((8 : Int32) &&& 31)) - (1 : Int32)))) &&& (((15 : Int32) <<< ((8 : Int32) &&& 31)) ^^^ (-1 : Int32)))))])) _
              refine XS.icmpNo X35.here hx rfl (hb hby at_82) rfl (teq hc12).2 ?_
              show Steps p.tables e below (T35.setTop (mkF m 85 #[.val (.int p1), .val (.int p2), .val (.int (2 : Int32)), .val (.int (((1 : Int32) <<< ((8 : Int32) &&& 31)) - (1 : Int32))), .val (.int (p1 ||| ((286331153 : Int32) &&& (((1 : Int32) <<< ((8 : Int32) &&& 31)) - (1 : Int32))))), .val (.int ((p1 ||| ((286331153 : Int32) &&& (((1 : Int32) <<< ((8 : Int32) &&& 31)) - (1 : Int32)))) &&& (((15 : Int32) <<< ((8 : Int32) &&& 31)) ^^^ (-1 : Int32)))), .val (.int (0 : Int32)), .unset] [])) _
              refine XS.iconst X35.here hx rfl (hb hby at_85) ?_
              show Steps p.tables e below (T35.setTop (mkF m 86 #[.val (.int p1), .val (.int p2), .val (.int (2 : Int32)), .val (.int (((1 : Int32) <<< ((8 : Int32) &&& 31)) - (1 : Int32))), .val (.int (p1 ||| ((286331153 : Int32) &&& (((1 : Int32) <<< ((8 : Int32) &&& 31)) - (1 : Int32))))), .val (.int ((p1 ||| ((286331153 : Int32) &&& (((1 : Int32) <<< ((8 : Int32) &&& 31)) - (1 : Int32)))) &&& (((15 : Int32) <<< ((8 : Int32) &&& 31)) ^^^ (-1 : Int32)))), .val (.int (0 : Int32)), .unset] [(.int (1 : Int32))])) _
              refine XS.goto X35.here hx rfl (pc0 := 86) (pc' := 90) rfl (hb hby at_86) (by decide) (by decide) ?_
              show Steps p.tables e below (T35.setTop (mkF m 90 #[.val (.int p1), .val (.int p2), .val (.int (2 : Int32)), .val (.int (((1 : Int32) <<< ((8 : Int32) &&& 31)) - (1 : Int32))), .val (.int (p1 ||| ((286331153 : Int32) &&& (((1 : Int32) <<< ((8 : Int32) &&& 31)) - (1 : Int32))))), .val (.int ((p1 ||| ((286331153 : Int32) &&& (((1 : Int32) <<< ((8 : Int32) &&& 31)) - (1 : Int32)))) &&& (((15 : Int32) <<< ((8 : Int32) &&& 31)) ^^^ (-1 : Int32)))), .val (.int (0 : Int32)), .unset] [(.int (1 : Int32))])) _
              refine XS.istore X35.here hx rfl (hb hby at_90) rfl (l' := #[.val (.int p1), .val (.int p2), .val (.int (2 : Int32)), .val (.int (((1 : Int32) <<< ((8 : Int32) &&& 31)) - (1 : Int32))), .val (.int (p1 ||| ((286331153 : Int32) &&& (((1 : Int32) <<< ((8 : Int32) &&& 31)) - (1 : Int32))))), .val (.int ((p1 ||| ((286331153 : Int32) &&& (((1 : Int32) <<< ((8 : Int32) &&& 31)) - (1 : Int32)))) &&& (((15 : Int32) <<< ((8 : Int32) &&& 31)) ^^^ (-1 : Int32)))), .val (.int (0 : Int32)), .val (.int (1 : Int32))]) rfl ?_
              show Steps p.tables e below (T35.setTop (mkF m 92 #[.val (.int p1), .val (.int p2), .val (.int (2 : Int32)), .val (.int (((1 : Int32) <<< ((8 : Int32) &&& 31)) - (1 : Int32))), .val (.int (p1 ||| ((286331153 : Int32) &&& (((1 : Int32) <<< ((8 : Int32) &&& 31)) - (1 : Int32))))), .val (.int ((p1 ||| ((286331153 : Int32) &&& (((1 : Int32) <<< ((8 : Int32) &&& 31)) - (1 : Int32)))) &&& (((15 : Int32) <<< ((8 : Int32) &&& 31)) ^^^ (-1 : Int32)))), .val (.int (0 : Int32)), .val (.int (1 : Int32))] [])) _
              refine XS.iload X35.here hx rfl (hb hby at_92) rfl ?_
              show Steps p.tables e below (T35.setTop (mkF m 94 #[.val (.int p1), .val (.int p2), .val (.int (2 : Int32)), .val (.int (((1 : Int32) <<< ((8 : Int32) &&& 31)) - (1 : Int32))), .val (.int (p1 ||| ((286331153 : Int32) &&& (((1 : Int32) <<< ((8 : Int32) &&& 31)) - (1 : Int32))))), .val (.int ((p1 ||| ((286331153 : Int32) &&& (((1 : Int32) <<< ((8 : Int32) &&& 31)) - (1 : Int32)))) &&& (((15 : Int32) <<< ((8 : Int32) &&& 31)) ^^^ (-1 : Int32)))), .val (.int (0 : Int32)), .val (.int (1 : Int32))] [(.int (0 : Int32))])) _
              refine XS.ifYes X35.here hx rfl (pc0 := 94) (pc' := 106) rfl (hb hby at_94) rfl ((if0 _ _).trans (teq (by decide : (0 : Int32) = (0 : Int32))).1) (by decide) (by decide) ?_
              show Steps p.tables e below (T35.setTop (mkF m 106 #[.val (.int p1), .val (.int p2), .val (.int (2 : Int32)), .val (.int (((1 : Int32) <<< ((8 : Int32) &&& 31)) - (1 : Int32))), .val (.int (p1 ||| ((286331153 : Int32) &&& (((1 : Int32) <<< ((8 : Int32) &&& 31)) - (1 : Int32))))), .val (.int ((p1 ||| ((286331153 : Int32) &&& (((1 : Int32) <<< ((8 : Int32) &&& 31)) - (1 : Int32)))) &&& (((15 : Int32) <<< ((8 : Int32) &&& 31)) ^^^ (-1 : Int32)))), .val (.int (0 : Int32)), .val (.int (1 : Int32))] [])) _
              refine XS.iconst X35.here hx rfl (hb hby at_106) ?_
              show Steps p.tables e below (T35.setTop (mkF m 107 #[.val (.int p1), .val (.int p2), .val (.int (2 : Int32)), .val (.int (((1 : Int32) <<< ((8 : Int32) &&& 31)) - (1 : Int32))), .val (.int (p1 ||| ((286331153 : Int32) &&& (((1 : Int32) <<< ((8 : Int32) &&& 31)) - (1 : Int32))))), .val (.int ((p1 ||| ((286331153 : Int32) &&& (((1 : Int32) <<< ((8 : Int32) &&& 31)) - (1 : Int32)))) &&& (((15 : Int32) <<< ((8 : Int32) &&& 31)) ^^^ (-1 : Int32)))), .val (.int (0 : Int32)), .val (.int (1 : Int32))] [(.int (0 : Int32))])) _
              exact retN X35 hx (t := .boolean) Bd.returns (by simp) (hb hby at_107) hr
            · show own_Q0 Z p1 p2 h0 n0 _ T35.heap _
              rw [e35]
              exact ⟨(by rw [own_f0, if_neg hc1, if_neg hc5, if_pos hc9, if_neg hc10, if_pos hc12]), N36⟩
          ·
            obtain ⟨fs, hr, hrun, hended, hW, hsame⟩ := X35.leave (v := some (.int (0 : Int32))) (fun h => by rw [Bd.returns] at h; cases h)
            refine ⟨_, _, k37 _ ?_, hrun, hended, _, _, rfl, ?_, ⟨_, rfl⟩, hW, hsame.mono (by decide) (by decide)⟩
            · show Steps p.tables e below (T35.setTop (mkF m 82 #[.val (.int p1), .val (.int p2), .val (.int (2 : Int32)), .val (.int (((1 : Int32) <<< ((8 : Int32) &&& 31)) - (1 : Int32))), .val (.int (p1 ||| ((286331153 : Int32) &&& (((1 : Int32) <<< ((8 : Int32) &&& 31)) - (1 : Int32))))), .val (.int ((p1 ||| ((286331153 : Int32) &&& (((1 : Int32) <<< ((8 : Int32) &&& 31)) - (1 : Int32)))) &&& (((15 : Int32) <<< ((8 : Int32) &&& 31)) ^^^ (-1 : Int32)))), .val (.int (0 : Int32)), .unset] [(.int (2 : Int32)), (.int (own_f1 ((p1 ||| ((286331153 : Int32) &&& (((1 : Int32) <<< ((8 : Int32) &&& 31)) - (1 : Int32)))) &&& (((15 : Int32) <<< ((8 : Int32) &&& 31)) ^^^ (-1 : Int32)))))])) _
              refine XS.icmpYes X35.here hx rfl (pc0 := 82) (pc' := 89) rfl (hb hby at_82) rfl (feq hc12).2 (by decide) (by decide) ?_
              show Steps p.tables e below (T35.setTop (mkF m 89 #[.val (.int p1), .val (.int p2), .val (.int (2 : Int32)), .val (.int (((1 : Int32) <<< ((8 : Int32) &&& 31)) - (1 : Int32))), .val (.int (p1 ||| ((286331153 : Int32) &&& (((1 : Int32) <<< ((8 : Int32) &&& 31)) - (1 : Int32))))), .val (.int ((p1 ||| ((286331153 : Int32) &&& (((1 : Int32) <<< ((8 : Int32) &&& 31)) - (1 : Int32)))) &&& (((15 : Int32) <<< ((8 : Int32) &&& 31)) ^^^ (-1 : Int32)))), .val (.int (0 : Int32)), .unset] [])) _
              refine XS.iconst X35.here hx rfl (hb hby at_89) ?_
              show Steps p.tables e below (T35.setTop (mkF m 90 #[.val (.int p1), .val (.int p2), .val (.int (2 : Int32)), .val (.int (((1 : Int32) <<< ((8 : Int32) &&& 31)) - (1 : Int32))), .val (.int (p1 ||| ((286331153 : Int32) &&& (((1 : Int32) <<< ((8 : Int32) &&& 31)) - (1 : Int32))))), .val (.int ((p1 ||| ((286331153 : Int32) &&& (((1 : Int32) <<< ((8 : Int32) &&& 31)) - (1 : Int32)))) &&& (((15 : Int32) <<< ((8 : Int32) &&& 31)) ^^^ (-1 : Int32)))), .val (.int (0 : Int32)), .unset] [(.int (0 : Int32))])) _
              refine XS.istore X35.here hx rfl (hb hby at_90) rfl (l' := #[.val (.int p1), .val (.int p2), .val (.int (2 : Int32)), .val (.int (((1 : Int32) <<< ((8 : Int32) &&& 31)) - (1 : Int32))), .val (.int (p1 ||| ((286331153 : Int32) &&& (((1 : Int32) <<< ((8 : Int32) &&& 31)) - (1 : Int32))))), .val (.int ((p1 ||| ((286331153 : Int32) &&& (((1 : Int32) <<< ((8 : Int32) &&& 31)) - (1 : Int32)))) &&& (((15 : Int32) <<< ((8 : Int32) &&& 31)) ^^^ (-1 : Int32)))), .val (.int (0 : Int32)), .val (.int (0 : Int32))]) rfl ?_
              show Steps p.tables e below (T35.setTop (mkF m 92 #[.val (.int p1), .val (.int p2), .val (.int (2 : Int32)), .val (.int (((1 : Int32) <<< ((8 : Int32) &&& 31)) - (1 : Int32))), .val (.int (p1 ||| ((286331153 : Int32) &&& (((1 : Int32) <<< ((8 : Int32) &&& 31)) - (1 : Int32))))), .val (.int ((p1 ||| ((286331153 : Int32) &&& (((1 : Int32) <<< ((8 : Int32) &&& 31)) - (1 : Int32)))) &&& (((15 : Int32) <<< ((8 : Int32) &&& 31)) ^^^ (-1 : Int32)))), .val (.int (0 : Int32)), .val (.int (0 : Int32))] [])) _
              refine XS.iload X35.here hx rfl (hb hby at_92) rfl ?_
              show Steps p.tables e below (T35.setTop (mkF m 94 #[.val (.int p1), .val (.int p2), .val (.int (2 : Int32)), .val (.int (((1 : Int32) <<< ((8 : Int32) &&& 31)) - (1 : Int32))), .val (.int (p1 ||| ((286331153 : Int32) &&& (((1 : Int32) <<< ((8 : Int32) &&& 31)) - (1 : Int32))))), .val (.int ((p1 ||| ((286331153 : Int32) &&& (((1 : Int32) <<< ((8 : Int32) &&& 31)) - (1 : Int32)))) &&& (((15 : Int32) <<< ((8 : Int32) &&& 31)) ^^^ (-1 : Int32)))), .val (.int (0 : Int32)), .val (.int (0 : Int32))] [(.int (0 : Int32))])) _
              refine XS.ifYes X35.here hx rfl (pc0 := 94) (pc' := 106) rfl (hb hby at_94) rfl ((if0 _ _).trans (teq (by decide : (0 : Int32) = (0 : Int32))).1) (by decide) (by decide) ?_
              show Steps p.tables e below (T35.setTop (mkF m 106 #[.val (.int p1), .val (.int p2), .val (.int (2 : Int32)), .val (.int (((1 : Int32) <<< ((8 : Int32) &&& 31)) - (1 : Int32))), .val (.int (p1 ||| ((286331153 : Int32) &&& (((1 : Int32) <<< ((8 : Int32) &&& 31)) - (1 : Int32))))), .val (.int ((p1 ||| ((286331153 : Int32) &&& (((1 : Int32) <<< ((8 : Int32) &&& 31)) - (1 : Int32)))) &&& (((15 : Int32) <<< ((8 : Int32) &&& 31)) ^^^ (-1 : Int32)))), .val (.int (0 : Int32)), .val (.int (0 : Int32))] [])) _
              refine XS.iconst X35.here hx rfl (hb hby at_106) ?_
              show Steps p.tables e below (T35.setTop (mkF m 107 #[.val (.int p1), .val (.int p2), .val (.int (2 : Int32)), .val (.int (((1 : Int32) <<< ((8 : Int32) &&& 31)) - (1 : Int32))), .val (.int (p1 ||| ((286331153 : Int32) &&& (((1 : Int32) <<< ((8 : Int32) &&& 31)) - (1 : Int32))))), .val (.int ((p1 ||| ((286331153 : Int32) &&& (((1 : Int32) <<< ((8 : Int32) &&& 31)) - (1 : Int32)))) &&& (((15 : Int32) <<< ((8 : Int32) &&& 31)) ^^^ (-1 : Int32)))), .val (.int (0 : Int32)), .val (.int (0 : Int32))] [(.int (0 : Int32))])) _
              exact retN X35 hx (t := .boolean) Bd.returns (by simp) (hb hby at_107) hr
            · show own_Q0 Z p1 p2 h0 n0 _ T35.heap _
              rw [e35]
              exact ⟨(by rw [own_f0, if_neg hc1, if_neg hc5, if_pos hc9, if_neg hc10, if_neg hc12]), N36⟩
      ·
        by_cases hc13 : ((p2 &&& (2147483647 : Int32)) - ((p2 &&& (2147483647 : Int32)) / (9 : Int32)) * (9 : Int32)) = (3 : Int32)
        ·
          have k38 : ∀ t, Steps p.tables e below (s₁.setTop (mkF m 7 #[.val (.int p1), .val (.int p2), .unset, .unset, .unset, .unset, .unset, .unset] [(.int (3 : Int32))])) t → Steps p.tables e below (s₁.setTop (entryFrame m #[(.int p1), (.int p2)] maxLocals)) t := by
            intro t kt
            refine k1 t ?_
            rw [hc13]
            exact kt
          obtain ⟨v39, _, ⟨T39, L39, k39, n39⟩, -, X39, ⟨Lc39, hQ39, l39, y39, z39⟩, st39⟩ := Jvm.LawKit.callS X0 hx (y := (⟨"com/example/kerb/kerb/txn/SoleLocks", "length", "(I)I"⟩ : MethodName)) hown (mvT hZ (hw _ (List.mem_of_getElem? (i := 2) rfl))) (mvT hZ (hw _ (List.mem_of_getElem? (i := 3) rfl))) (mvT hZ (hw _ (List.mem_of_getElem? (i := 4) rfl))) (mvT hZ (hw _ (List.mem_of_getElem? (i := 5) rfl))) (by decide) (backOf (W := 0) (own_rm1 l Z a0 hw [] p1 h0 n0 Z0) hZ (hw _ (List.mem_of_getElem? (i := 5) rfl)) (hw _ (List.mem_of_getElem? (i := 4) rfl)) (by decide) (by decide)) (g := (mkF m 59 #[.val (.int p1), .val (.int p2), .val (.int (3 : Int32)), .val (.int (((1 : Int32) <<< ((12 : Int32) &&& 31)) - (1 : Int32))), .val (.int (p1 ||| ((286331153 : Int32) &&& (((1 : Int32) <<< ((12 : Int32) &&& 31)) - (1 : Int32))))), .val (.int ((p1 ||| ((286331153 : Int32) &&& (((1 : Int32) <<< ((12 : Int32) &&& 31)) - (1 : Int32)))) &&& (((15 : Int32) <<< ((12 : Int32) &&& 31)) ^^^ (-1 : Int32)))), .unset, .unset] [(.int p1)])) rfl (by rw [hml]; rfl) (argsL := [(.int p1)]) (rest := []) (lenOf own_pd69 rfl) rfl (by show 2 * 0 + _ ≤ _; exact Nat.le_of_eq rfl) (hb hby at_59) (fun _ _ => ⟨rfl, e0, (by decide : 0 + 0 ≤ _), (by decide : 0 + 0 ≤ _)⟩)
          dsimp only [Pt.U, Pt.locs, Pt.cells, Pt.slots] at X39 l39 y39 z39 st39 hQ39
          subst l39 y39 z39
          obtain ⟨rfl, N39q, e39⟩ := hQ39
          have N40 := Fr.app N0 N39q
          obtain ⟨v41, _, ⟨T41, L41, k41, n41⟩, -, X41, ⟨Lc41, hQ41, l41, y41, z41⟩, st41⟩ := Jvm.LawKit.callS X39 hx (y := (⟨"com/example/kerb/kerb/txn/SoleLocksLengthPinLaw", "ref", "(I)I"⟩ : MethodName)) hown (mvT hZ (hw _ (List.mem_of_getElem? (i := 6) rfl))) (mvT hZ (hw _ (List.mem_of_getElem? (i := 7) rfl))) (mvT hZ (hw _ (List.mem_of_getElem? (i := 8) rfl))) (mvT hZ (hw _ (List.mem_of_getElem? (i := 9) rfl))) (by decide) (backOf (W := 1) (own_rm2 l Z a0 hw [] p1 h0 n0 Z0) hZ (hw _ (List.mem_of_getElem? (i := 9) rfl)) (hw _ (List.mem_of_getElem? (i := 8) rfl)) (by decide) (by decide)) (g := (mkF m 63 #[.val (.int p1), .val (.int p2), .val (.int (3 : Int32)), .val (.int (((1 : Int32) <<< ((12 : Int32) &&& 31)) - (1 : Int32))), .val (.int (p1 ||| ((286331153 : Int32) &&& (((1 : Int32) <<< ((12 : Int32) &&& 31)) - (1 : Int32))))), .val (.int ((p1 ||| ((286331153 : Int32) &&& (((1 : Int32) <<< ((12 : Int32) &&& 31)) - (1 : Int32)))) &&& (((15 : Int32) <<< ((12 : Int32) &&& 31)) ^^^ (-1 : Int32)))), .unset, .unset] [(.int p1), (.int (own_f1 p1))])) rfl (by rw [hml]; rfl) (argsL := [(.int p1)]) (rest := [(.int (own_f1 p1))]) (lenOf own_pd69 rfl) rfl (by show 2 * 0 + _ ≤ _; exact Nat.le_of_eq rfl) (hb hby at_63) (fun _ _ => ⟨rfl, e39, (by decide : 0 + 0 ≤ _), (by decide : 0 + 0 ≤ _)⟩)
          dsimp only [Pt.U, Pt.locs, Pt.cells, Pt.slots] at X41 l41 y41 z41 st41 hQ41
          subst l41 y41 z41
          obtain ⟨rfl, N41q, e41⟩ := hQ41
          have N42 := Fr.app N40 N41q
          have k43 : ∀ t, Steps p.tables e below (T41.setTop (mkF m 66 #[.val (.int p1), .val (.int p2), .val (.int (3 : Int32)), .val (.int (((1 : Int32) <<< ((12 : Int32) &&& 31)) - (1 : Int32))), .val (.int (p1 ||| ((286331153 : Int32) &&& (((1 : Int32) <<< ((12 : Int32) &&& 31)) - (1 : Int32))))), .val (.int ((p1 ||| ((286331153 : Int32) &&& (((1 : Int32) <<< ((12 : Int32) &&& 31)) - (1 : Int32)))) &&& (((15 : Int32) <<< ((12 : Int32) &&& 31)) ^^^ (-1 : Int32)))), .unset, .unset] [(.int (own_f2 p1)), (.int (own_f1 p1))])) t → Steps p.tables e below (s₁.setTop (entryFrame m #[(.int p1), (.int p2)] maxLocals)) t := by
            intro t kt
            refine k38 t ?_
            show Steps p.tables e below (s₁.setTop (mkF m 7 #[.val (.int p1), .val (.int p2), .unset, .unset, .unset, .unset, .unset, .unset] [(.int (3 : Int32))])) _
            refine XS.istoreN X0.here hx rfl (hb hby at_7) rfl (l' := #[.val (.int p1), .val (.int p2), .val (.int (3 : Int32)), .unset, .unset, .unset, .unset, .unset]) rfl ?_
            show Steps p.tables e below (s₁.setTop (mkF m 8 #[.val (.int p1), .val (.int p2), .val (.int (3 : Int32)), .unset, .unset, .unset, .unset, .unset] [])) _
            refine XS.iloadN X0.here hx rfl (hb hby at_8) rfl ?_
            show Steps p.tables e below (s₁.setTop (mkF m 9 #[.val (.int p1), .val (.int p2), .val (.int (3 : Int32)), .unset, .unset, .unset, .unset, .unset] [(.int (3 : Int32))])) _
            refine XS.bipush X0.here hx rfl (hb hby at_9) ?_
            show Steps p.tables e below (s₁.setTop (mkF m 11 #[.val (.int p1), .val (.int p2), .val (.int (3 : Int32)), .unset, .unset, .unset, .unset, .unset] [(.int (8 : Int32)), (.int (3 : Int32))])) _
            refine XS.icmpYes X0.here hx rfl (pc0 := 11) (pc' := 18) rfl (hb hby at_11) rfl (feq (by decide : ¬ ((3 : Int32) = (8 : Int32)))).2 (by decide) (by decide) ?_
            show Steps p.tables e below (s₁.setTop (mkF m 18 #[.val (.int p1), .val (.int p2), .val (.int (3 : Int32)), .unset, .unset, .unset, .unset, .unset] [])) _
            refine XS.iconst X0.here hx rfl (hb hby at_18) ?_
            show Steps p.tables e below (s₁.setTop (mkF m 19 #[.val (.int p1), .val (.int p2), .val (.int (3 : Int32)), .unset, .unset, .unset, .unset, .unset] [(.int (1 : Int32))])) _
            refine XS.iconst X0.here hx rfl (hb hby at_19) ?_
            show Steps p.tables e below (s₁.setTop (mkF m 20 #[.val (.int p1), .val (.int p2), .val (.int (3 : Int32)), .unset, .unset, .unset, .unset, .unset] [(.int (4 : Int32)), (.int (1 : Int32))])) _
            refine XS.iloadN X0.here hx rfl (hb hby at_20) rfl ?_
            show Steps p.tables e below (s₁.setTop (mkF m 21 #[.val (.int p1), .val (.int p2), .val (.int (3 : Int32)), .unset, .unset, .unset, .unset, .unset] [(.int (3 : Int32)), (.int (4 : Int32)), (.int (1 : Int32))])) _
            refine XS.imul X0.here hx rfl (hb hby at_21) rfl ?_
            show Steps p.tables e below (s₁.setTop (mkF m 22 #[.val (.int p1), .val (.int p2), .val (.int (3 : Int32)), .unset, .unset, .unset, .unset, .unset] [(.int (12 : Int32)), (.int (1 : Int32))])) _
            refine XS.ishl X0.here hx rfl (hb hby at_22) rfl ?_
            show Steps p.tables e below (s₁.setTop (mkF m 23 #[.val (.int p1), .val (.int p2), .val (.int (3 : Int32)), .unset, .unset, .unset, .unset, .unset] [(.int ((1 : Int32) <<< ((12 : Int32) &&& 31)))])) _
            refine XS.iconst X0.here hx rfl (hb hby at_23) ?_
            show Steps p.tables e below (s₁.setTop (mkF m 24 #[.val (.int p1), .val (.int p2), .val (.int (3 : Int32)), .unset, .unset, .unset, .unset, .unset] [(.int (1 : Int32)), (.int ((1 : Int32) <<< ((12 : Int32) &&& 31)))])) _
            refine XS.isub X0.here hx rfl (hb hby at_24) rfl ?_
            show Steps p.tables e below (s₁.setTop (mkF m 25 #[.val (.int p1), .val (.int p2), .val (.int (3 : Int32)), .unset, .unset, .unset, .unset, .unset] [(.int (((1 : Int32) <<< ((12 : Int32) &&& 31)) - (1 : Int32)))])) _
            refine XS.istoreN X0.here hx rfl (hb hby at_25) rfl (l' := #[.val (.int p1), .val (.int p2), .val (.int (3 : Int32)), .val (.int (((1 : Int32) <<< ((12 : Int32) &&& 31)) - (1 : Int32))), .unset, .unset, .unset, .unset]) rfl ?_
            show Steps p.tables e below (s₁.setTop (mkF m 26 #[.val (.int p1), .val (.int p2), .val (.int (3 : Int32)), .val (.int (((1 : Int32) <<< ((12 : Int32) &&& 31)) - (1 : Int32))), .unset, .unset, .unset, .unset] [])) _
            refine XS.iloadN X0.here hx rfl (hb hby at_26) rfl ?_
            show Steps p.tables e below (s₁.setTop (mkF m 27 #[.val (.int p1), .val (.int p2), .val (.int (3 : Int32)), .val (.int (((1 : Int32) <<< ((12 : Int32) &&& 31)) - (1 : Int32))), .unset, .unset, .unset, .unset] [(.int p1)])) _
            refine X0.ldcInt hx hown (mvT hZ (hw _ (List.mem_of_getElem? (i := 1) rfl))) (g := (mkF m 27 #[.val (.int p1), .val (.int p2), .val (.int (3 : Int32)), .val (.int (((1 : Int32) <<< ((12 : Int32) &&& 31)) - (1 : Int32))), .unset, .unset, .unset, .unset] [(.int p1)])) rfl (hb hby at_27) _ ?_
            show Steps p.tables e below (s₁.setTop (mkF m 29 #[.val (.int p1), .val (.int p2), .val (.int (3 : Int32)), .val (.int (((1 : Int32) <<< ((12 : Int32) &&& 31)) - (1 : Int32))), .unset, .unset, .unset, .unset] [(.int (286331153 : Int32)), (.int p1)])) _
            refine XS.iloadN X0.here hx rfl (hb hby at_29) rfl ?_
            show Steps p.tables e below (s₁.setTop (mkF m 30 #[.val (.int p1), .val (.int p2), .val (.int (3 : Int32)), .val (.int (((1 : Int32) <<< ((12 : Int32) &&& 31)) - (1 : Int32))), .unset, .unset, .unset, .unset] [(.int (((1 : Int32) <<< ((12 : Int32) &&& 31)) - (1 : Int32))), (.int (286331153 : Int32)), (.int p1)])) _
            refine XS.iand X0.here hx rfl (hb hby at_30) rfl ?_
            show Steps p.tables e below (s₁.setTop (mkF m 31 #[.val (.int p1), .val (.int p2), .val (.int (3 : Int32)), .val (.int (((1 : Int32) <<< ((12 : Int32) &&& 31)) - (1 : Int32))), .unset, .unset, .unset, .unset] [(.int ((286331153 : Int32) &&& (((1 : Int32) <<< ((12 : Int32) &&& 31)) - (1 : Int32)))), (.int p1)])) _
            refine XS.ior X0.here hx rfl (hb hby at_31) rfl ?_
            show Steps p.tables e below (s₁.setTop (mkF m 32 #[.val (.int p1), .val (.int p2), .val (.int (3 : Int32)), .val (.int (((1 : Int32) <<< ((12 : Int32) &&& 31)) - (1 : Int32))), .unset, .unset, .unset, .unset] [(.int (p1 ||| ((286331153 : Int32) &&& (((1 : Int32) <<< ((12 : Int32) &&& 31)) - (1 : Int32)))))])) _
            refine XS.istore X0.here hx rfl (hb hby at_32) rfl (l' := #[.val (.int p1), .val (.int p2), .val (.int (3 : Int32)), .val (.int (((1 : Int32) <<< ((12 : Int32) &&& 31)) - (1 : Int32))), .val (.int (p1 ||| ((286331153 : Int32) &&& (((1 : Int32) <<< ((12 : Int32) &&& 31)) - (1 : Int32))))), .unset, .unset, .unset]) rfl ?_
            show Steps p.tables e below (s₁.setTop (mkF m 34 #[.val (.int p1), .val (.int p2), .val (.int (3 : Int32)), .val (.int (((1 : Int32) <<< ((12 : Int32) &&& 31)) - (1 : Int32))), .val (.int (p1 ||| ((286331153 : Int32) &&& (((1 : Int32) <<< ((12 : Int32) &&& 31)) - (1 : Int32))))), .unset, .unset, .unset] [])) _
            refine XS.iloadN X0.here hx rfl (hb hby at_34) rfl ?_
            show Steps p.tables e below (s₁.setTop (mkF m 35 #[.val (.int p1), .val (.int p2), .val (.int (3 : Int32)), .val (.int (((1 : Int32) <<< ((12 : Int32) &&& 31)) - (1 : Int32))), .val (.int (p1 ||| ((286331153 : Int32) &&& (((1 : Int32) <<< ((12 : Int32) &&& 31)) - (1 : Int32))))), .unset, .unset, .unset] [(.int (3 : Int32))])) _
            refine XS.bipush X0.here hx rfl (hb hby at_35) ?_
            show Steps p.tables e below (s₁.setTop (mkF m 37 #[.val (.int p1), .val (.int p2), .val (.int (3 : Int32)), .val (.int (((1 : Int32) <<< ((12 : Int32) &&& 31)) - (1 : Int32))), .val (.int (p1 ||| ((286331153 : Int32) &&& (((1 : Int32) <<< ((12 : Int32) &&& 31)) - (1 : Int32))))), .unset, .unset, .unset] [(.int (8 : Int32)), (.int (3 : Int32))])) _
            refine XS.icmpYes X0.here hx rfl (pc0 := 37) (pc' := 45) rfl (hb hby at_37) rfl (feq (by decide : ¬ ((3 : Int32) = (8 : Int32)))).2 (by decide) (by decide) ?_
            show Steps p.tables e below (s₁.setTop (mkF m 45 #[.val (.int p1), .val (.int p2), .val (.int (3 : Int32)), .val (.int (((1 : Int32) <<< ((12 : Int32) &&& 31)) - (1 : Int32))), .val (.int (p1 ||| ((286331153 : Int32) &&& (((1 : Int32) <<< ((12 : Int32) &&& 31)) - (1 : Int32))))), .unset, .unset, .unset] [])) _
            refine XS.iload X0.here hx rfl (hb hby at_45) rfl ?_
            show Steps p.tables e below (s₁.setTop (mkF m 47 #[.val (.int p1), .val (.int p2), .val (.int (3 : Int32)), .val (.int (((1 : Int32) <<< ((12 : Int32) &&& 31)) - (1 : Int32))), .val (.int (p1 ||| ((286331153 : Int32) &&& (((1 : Int32) <<< ((12 : Int32) &&& 31)) - (1 : Int32))))), .unset, .unset, .unset] [(.int (p1 ||| ((286331153 : Int32) &&& (((1 : Int32) <<< ((12 : Int32) &&& 31)) - (1 : Int32)))))])) _
            refine XS.bipush X0.here hx rfl (hb hby at_47) ?_
            show Steps p.tables e below (s₁.setTop (mkF m 49 #[.val (.int p1), .val (.int p2), .val (.int (3 : Int32)), .val (.int (((1 : Int32) <<< ((12 : Int32) &&& 31)) - (1 : Int32))), .val (.int (p1 ||| ((286331153 : Int32) &&& (((1 : Int32) <<< ((12 : Int32) &&& 31)) - (1 : Int32))))), .unset, .unset, .unset] [(.int (15 : Int32)), (.int (p1 ||| ((286331153 : Int32) &&& (((1 : Int32) <<< ((12 : Int32) &&& 31)) - (1 : Int32)))))])) _
            refine XS.iconst X0.here hx rfl (hb hby at_49) ?_
            show Steps p.tables e below (s₁.setTop (mkF m 50 #[.val (.int p1), .val (.int p2), .val (.int (3 : Int32)), .val (.int (((1 : Int32) <<< ((12 : Int32) &&& 31)) - (1 : Int32))), .val (.int (p1 ||| ((286331153 : Int32) &&& (((1 : Int32) <<< ((12 : Int32) &&& 31)) - (1 : Int32))))), .unset, .unset, .unset] [(.int (4 : Int32)), (.int (15 : Int32)), (.int (p1 ||| ((286331153 : Int32) &&& (((1 : Int32) <<< ((12 : Int32) &&& 31)) - (1 : Int32)))))])) _
            refine XS.iloadN X0.here hx rfl (hb hby at_50) rfl ?_
            show Steps p.tables e below (s₁.setTop (mkF m 51 #[.val (.int p1), .val (.int p2), .val (.int (3 : Int32)), .val (.int (((1 : Int32) <<< ((12 : Int32) &&& 31)) - (1 : Int32))), .val (.int (p1 ||| ((286331153 : Int32) &&& (((1 : Int32) <<< ((12 : Int32) &&& 31)) - (1 : Int32))))), .unset, .unset, .unset] [(.int (3 : Int32)), (.int (4 : Int32)), (.int (15 : Int32)), (.int (p1 ||| ((286331153 : Int32) &&& (((1 : Int32) <<< ((12 : Int32) &&& 31)) - (1 : Int32)))))])) _
            refine XS.imul X0.here hx rfl (hb hby at_51) rfl ?_
            show Steps p.tables e below (s₁.setTop (mkF m 52 #[.val (.int p1), .val (.int p2), .val (.int (3 : Int32)), .val (.int (((1 : Int32) <<< ((12 : Int32) &&& 31)) - (1 : Int32))), .val (.int (p1 ||| ((286331153 : Int32) &&& (((1 : Int32) <<< ((12 : Int32) &&& 31)) - (1 : Int32))))), .unset, .unset, .unset] [(.int (12 : Int32)), (.int (15 : Int32)), (.int (p1 ||| ((286331153 : Int32) &&& (((1 : Int32) <<< ((12 : Int32) &&& 31)) - (1 : Int32)))))])) _
            refine XS.ishl X0.here hx rfl (hb hby at_52) rfl ?_
            show Steps p.tables e below (s₁.setTop (mkF m 53 #[.val (.int p1), .val (.int p2), .val (.int (3 : Int32)), .val (.int (((1 : Int32) <<< ((12 : Int32) &&& 31)) - (1 : Int32))), .val (.int (p1 ||| ((286331153 : Int32) &&& (((1 : Int32) <<< ((12 : Int32) &&& 31)) - (1 : Int32))))), .unset, .unset, .unset] [(.int ((15 : Int32) <<< ((12 : Int32) &&& 31))), (.int (p1 ||| ((286331153 : Int32) &&& (((1 : Int32) <<< ((12 : Int32) &&& 31)) - (1 : Int32)))))])) _
            refine XS.iconst X0.here hx rfl (hb hby at_53) ?_
            show Steps p.tables e below (s₁.setTop (mkF m 54 #[.val (.int p1), .val (.int p2), .val (.int (3 : Int32)), .val (.int (((1 : Int32) <<< ((12 : Int32) &&& 31)) - (1 : Int32))), .val (.int (p1 ||| ((286331153 : Int32) &&& (((1 : Int32) <<< ((12 : Int32) &&& 31)) - (1 : Int32))))), .unset, .unset, .unset] [(.int (-1 : Int32)), (.int ((15 : Int32) <<< ((12 : Int32) &&& 31))), (.int (p1 ||| ((286331153 : Int32) &&& (((1 : Int32) <<< ((12 : Int32) &&& 31)) - (1 : Int32)))))])) _
            refine XS.ixor X0.here hx rfl (hb hby at_54) rfl ?_
            show Steps p.tables e below (s₁.setTop (mkF m 55 #[.val (.int p1), .val (.int p2), .val (.int (3 : Int32)), .val (.int (((1 : Int32) <<< ((12 : Int32) &&& 31)) - (1 : Int32))), .val (.int (p1 ||| ((286331153 : Int32) &&& (((1 : Int32) <<< ((12 : Int32) &&& 31)) - (1 : Int32))))), .unset, .unset, .unset] [(.int (((15 : Int32) <<< ((12 : Int32) &&& 31)) ^^^ (-1 : Int32))), (.int (p1 ||| ((286331153 : Int32) &&& (((1 : Int32) <<< ((12 : Int32) &&& 31)) - (1 : Int32)))))])) _
            refine XS.iand X0.here hx rfl (hb hby at_55) rfl ?_
            show Steps p.tables e below (s₁.setTop (mkF m 56 #[.val (.int p1), .val (.int p2), .val (.int (3 : Int32)), .val (.int (((1 : Int32) <<< ((12 : Int32) &&& 31)) - (1 : Int32))), .val (.int (p1 ||| ((286331153 : Int32) &&& (((1 : Int32) <<< ((12 : Int32) &&& 31)) - (1 : Int32))))), .unset, .unset, .unset] [(.int ((p1 ||| ((286331153 : Int32) &&& (((1 : Int32) <<< ((12 : Int32) &&& 31)) - (1 : Int32)))) &&& (((15 : Int32) <<< ((12 : Int32) &&& 31)) ^^^ (-1 : Int32))))])) _
            refine XS.istore X0.here hx rfl (hb hby at_56) rfl (l' := #[.val (.int p1), .val (.int p2), .val (.int (3 : Int32)), .val (.int (((1 : Int32) <<< ((12 : Int32) &&& 31)) - (1 : Int32))), .val (.int (p1 ||| ((286331153 : Int32) &&& (((1 : Int32) <<< ((12 : Int32) &&& 31)) - (1 : Int32))))), .val (.int ((p1 ||| ((286331153 : Int32) &&& (((1 : Int32) <<< ((12 : Int32) &&& 31)) - (1 : Int32)))) &&& (((15 : Int32) <<< ((12 : Int32) &&& 31)) ^^^ (-1 : Int32)))), .unset, .unset]) rfl ?_
            show Steps p.tables e below (s₁.setTop (mkF m 58 #[.val (.int p1), .val (.int p2), .val (.int (3 : Int32)), .val (.int (((1 : Int32) <<< ((12 : Int32) &&& 31)) - (1 : Int32))), .val (.int (p1 ||| ((286331153 : Int32) &&& (((1 : Int32) <<< ((12 : Int32) &&& 31)) - (1 : Int32))))), .val (.int ((p1 ||| ((286331153 : Int32) &&& (((1 : Int32) <<< ((12 : Int32) &&& 31)) - (1 : Int32)))) &&& (((15 : Int32) <<< ((12 : Int32) &&& 31)) ^^^ (-1 : Int32)))), .unset, .unset] [])) _
            refine XS.iloadN X0.here hx rfl (hb hby at_58) rfl ?_
            show Steps p.tables e below (s₁.setTop (mkF m 59 #[.val (.int p1), .val (.int p2), .val (.int (3 : Int32)), .val (.int (((1 : Int32) <<< ((12 : Int32) &&& 31)) - (1 : Int32))), .val (.int (p1 ||| ((286331153 : Int32) &&& (((1 : Int32) <<< ((12 : Int32) &&& 31)) - (1 : Int32))))), .val (.int ((p1 ||| ((286331153 : Int32) &&& (((1 : Int32) <<< ((12 : Int32) &&& 31)) - (1 : Int32)))) &&& (((15 : Int32) <<< ((12 : Int32) &&& 31)) ^^^ (-1 : Int32)))), .unset, .unset] [(.int p1)])) _
            refine st39 _ ?_
            show Steps p.tables e below (T39.setTop (mkF m 62 #[.val (.int p1), .val (.int p2), .val (.int (3 : Int32)), .val (.int (((1 : Int32) <<< ((12 : Int32) &&& 31)) - (1 : Int32))), .val (.int (p1 ||| ((286331153 : Int32) &&& (((1 : Int32) <<< ((12 : Int32) &&& 31)) - (1 : Int32))))), .val (.int ((p1 ||| ((286331153 : Int32) &&& (((1 : Int32) <<< ((12 : Int32) &&& 31)) - (1 : Int32)))) &&& (((15 : Int32) <<< ((12 : Int32) &&& 31)) ^^^ (-1 : Int32)))), .unset, .unset] [(.int (own_f1 p1))])) _
            refine XS.iloadN X39.here hx rfl (hb hby at_62) rfl ?_
            show Steps p.tables e below (T39.setTop (mkF m 63 #[.val (.int p1), .val (.int p2), .val (.int (3 : Int32)), .val (.int (((1 : Int32) <<< ((12 : Int32) &&& 31)) - (1 : Int32))), .val (.int (p1 ||| ((286331153 : Int32) &&& (((1 : Int32) <<< ((12 : Int32) &&& 31)) - (1 : Int32))))), .val (.int ((p1 ||| ((286331153 : Int32) &&& (((1 : Int32) <<< ((12 : Int32) &&& 31)) - (1 : Int32)))) &&& (((15 : Int32) <<< ((12 : Int32) &&& 31)) ^^^ (-1 : Int32)))), .unset, .unset] [(.int p1), (.int (own_f1 p1))])) _
            refine st41 _ ?_
            exact kt
          by_cases hc14 : (own_f1 p1) = (own_f2 p1)
          ·
            obtain ⟨v44, _, ⟨T44, L44, k44, n44⟩, -, X44, ⟨Lc44, hQ44, l44, y44, z44⟩, st44⟩ := Jvm.LawKit.callS X41 hx (y := (⟨"com/example/kerb/kerb/txn/SoleLocks", "length", "(I)I"⟩ : MethodName)) hown (mvT hZ (hw _ (List.mem_of_getElem? (i := 2) rfl))) (mvT hZ (hw _ (List.mem_of_getElem? (i := 3) rfl))) (mvT hZ (hw _ (List.mem_of_getElem? (i := 4) rfl))) (mvT hZ (hw _ (List.mem_of_getElem? (i := 5) rfl))) (by decide) (backOf (W := 0) (own_rm1 l Z a0 hw [] ((p1 ||| ((286331153 : Int32) &&& (((1 : Int32) <<< ((12 : Int32) &&& 31)) - (1 : Int32)))) &&& (((15 : Int32) <<< ((12 : Int32) &&& 31)) ^^^ (-1 : Int32))) h0 n0 Z0) hZ (hw _ (List.mem_of_getElem? (i := 5) rfl)) (hw _ (List.mem_of_getElem? (i := 4) rfl)) (by decide) (by decide)) (g := (mkF m 78 #[.val (.int p1), .val (.int p2), .val (.int (3 : Int32)), .val (.int (((1 : Int32) <<< ((12 : Int32) &&& 31)) - (1 : Int32))), .val (.int (p1 ||| ((286331153 : Int32) &&& (((1 : Int32) <<< ((12 : Int32) &&& 31)) - (1 : Int32))))), .val (.int ((p1 ||| ((286331153 : Int32) &&& (((1 : Int32) <<< ((12 : Int32) &&& 31)) - (1 : Int32)))) &&& (((15 : Int32) <<< ((12 : Int32) &&& 31)) ^^^ (-1 : Int32)))), .val (.int (1 : Int32)), .unset] [(.int ((p1 ||| ((286331153 : Int32) &&& (((1 : Int32) <<< ((12 : Int32) &&& 31)) - (1 : Int32)))) &&& (((15 : Int32) <<< ((12 : Int32) &&& 31)) ^^^ (-1 : Int32))))])) rfl (by rw [hml]; rfl) (argsL := [(.int ((p1 ||| ((286331153 : Int32) &&& (((1 : Int32) <<< ((12 : Int32) &&& 31)) - (1 : Int32)))) &&& (((15 : Int32) <<< ((12 : Int32) &&& 31)) ^^^ (-1 : Int32))))]) (rest := []) (lenOf own_pd69 rfl) rfl (by show 2 * 0 + _ ≤ _; exact Nat.le_of_eq rfl) (hb hby at_78) (fun _ _ => ⟨rfl, e41, (by decide : 0 + 0 ≤ _), (by decide : 0 + 0 ≤ _)⟩)
            dsimp only [Pt.U, Pt.locs, Pt.cells, Pt.slots] at X44 l44 y44 z44 st44 hQ44
            subst l44 y44 z44
            obtain ⟨rfl, N44q, e44⟩ := hQ44
            have N45 := Fr.app N42 N44q
            have k46 : ∀ t, Steps p.tables e below (T44.setTop (mkF m 82 #[.val (.int p1), .val (.int p2), .val (.int (3 : Int32)), .val (.int (((1 : Int32) <<< ((12 : Int32) &&& 31)) - (1 : Int32))), .val (.int (p1 ||| ((286331153 : Int32) &&& (((1 : Int32) <<< ((12 : Int32) &&& 31)) - (1 : Int32))))), .val (.int ((p1 ||| ((286331153 : Int32) &&& (((1 : Int32) <<< ((12 : Int32) &&& 31)) - (1 : Int32)))) &&& (((15 : Int32) <<< ((12 : Int32) &&& 31)) ^^^ (-1 : Int32)))), .val (.int (1 : Int32)), .unset] [(.int (3 : Int32)), (.int (own_f1 ((p1 ||| ((286331153 : Int32) &&& (((1 : Int32) <<< ((12 : Int32) &&& 31)) - (1 : Int32)))) &&& (((15 : Int32) <<< ((12 : Int32) &&& 31)) ^^^ (-1 : Int32)))))])) t → Steps p.tables e below (s₁.setTop (entryFrame m #[(.int p1), (.int p2)] maxLocals)) t := by
              intro t kt
              refine k43 t ?_
              show Steps p.tables e below (T41.setTop (mkF m 66 #[.val (.int p1), .val (.int p2), .val (.int (3 : Int32)), .val (.int (((1 : Int32) <<< ((12 : Int32) &&& 31)) - (1 : Int32))), .val (.int (p1 ||| ((286331153 : Int32) &&& (((1 : Int32) <<< ((12 : Int32) &&& 31)) - (1 : Int32))))), .val (.int ((p1 ||| ((286331153 : Int32) &&& (((1 : Int32) <<< ((12 : Int32) &&& 31)) - (1 : Int32)))) &&& (((15 : Int32) <<< ((12 : Int32) &&& 31)) ^^^ (-1 : Int32)))), .unset, .unset] [(.int (own_f2 p1)), (.int (own_f1 p1))])) _
              refine XS.icmpNo X41.here hx rfl (hb hby at_66) rfl (teq hc14).2 ?_
              show Steps p.tables e below (T41.setTop (mkF m 69 #[.val (.int p1), .val (.int p2), .val (.int (3 : Int32)), .val (.int (((1 : Int32) <<< ((12 : Int32) &&& 31)) - (1 : Int32))), .val (.int (p1 ||| ((286331153 : Int32) &&& (((1 : Int32) <<< ((12 : Int32) &&& 31)) - (1 : Int32))))), .val (.int ((p1 ||| ((286331153 : Int32) &&& (((1 : Int32) <<< ((12 : Int32) &&& 31)) - (1 : Int32)))) &&& (((15 : Int32) <<< ((12 : Int32) &&& 31)) ^^^ (-1 : Int32)))), .unset, .unset] [])) _
              refine XS.iconst X41.here hx rfl (hb hby at_69) ?_
              show Steps p.tables e below (T41.setTop (mkF m 70 #[.val (.int p1), .val (.int p2), .val (.int (3 : Int32)), .val (.int (((1 : Int32) <<< ((12 : Int32) &&& 31)) - (1 : Int32))), .val (.int (p1 ||| ((286331153 : Int32) &&& (((1 : Int32) <<< ((12 : Int32) &&& 31)) - (1 : Int32))))), .val (.int ((p1 ||| ((286331153 : Int32) &&& (((1 : Int32) <<< ((12 : Int32) &&& 31)) - (1 : Int32)))) &&& (((15 : Int32) <<< ((12 : Int32) &&& 31)) ^^^ (-1 : Int32)))), .unset, .unset] [(.int (1 : Int32))])) _
              refine XS.goto X41.here hx rfl (pc0 := 70) (pc' := 74) rfl (hb hby at_70) (by decide) (by decide) ?_
              show Steps p.tables e below (T41.setTop (mkF m 74 #[.val (.int p1), .val (.int p2), .val (.int (3 : Int32)), .val (.int (((1 : Int32) <<< ((12 : Int32) &&& 31)) - (1 : Int32))), .val (.int (p1 ||| ((286331153 : Int32) &&& (((1 : Int32) <<< ((12 : Int32) &&& 31)) - (1 : Int32))))), .val (.int ((p1 ||| ((286331153 : Int32) &&& (((1 : Int32) <<< ((12 : Int32) &&& 31)) - (1 : Int32)))) &&& (((15 : Int32) <<< ((12 : Int32) &&& 31)) ^^^ (-1 : Int32)))), .unset, .unset] [(.int (1 : Int32))])) _
              refine XS.istore X41.here hx rfl (hb hby at_74) rfl (l' := #[.val (.int p1), .val (.int p2), .val (.int (3 : Int32)), .val (.int (((1 : Int32) <<< ((12 : Int32) &&& 31)) - (1 : Int32))), .val (.int (p1 ||| ((286331153 : Int32) &&& (((1 : Int32) <<< ((12 : Int32) &&& 31)) - (1 : Int32))))), .val (.int ((p1 ||| ((286331153 : Int32) &&& (((1 : Int32) <<< ((12 : Int32) &&& 31)) - (1 : Int32)))) &&& (((15 : Int32) <<< ((12 : Int32) &&& 31)) ^^^ (-1 : Int32)))), .val (.int (1 : Int32)), .unset]) rfl ?_
              show Steps p.tables e below (T41.setTop (mkF m 76 #[.val (.int p1), .val (.int p2), .val (.int (3 : Int32)), .val (.int (((1 : Int32) <<< ((12 : Int32) &&& 31)) - (1 : Int32))), .val (.int (p1 ||| ((286331153 : Int32) &&& (((1 : Int32) <<< ((12 : Int32) &&& 31)) - (1 : Int32))))), .val (.int ((p1 ||| ((286331153 : Int32) &&& (((1 : Int32) <<< ((12 : Int32) &&& 31)) - (1 : Int32)))) &&& (((15 : Int32) <<< ((12 : Int32) &&& 31)) ^^^ (-1 : Int32)))), .val (.int (1 : Int32)), .unset] [])) _
              refine XS.iload X41.here hx rfl (hb hby at_76) rfl ?_
              show Steps p.tables e below (T41.setTop (mkF m 78 #[.val (.int p1), .val (.int p2), .val (.int (3 : Int32)), .val (.int (((1 : Int32) <<< ((12 : Int32) &&& 31)) - (1 : Int32))), .val (.int (p1 ||| ((286331153 : Int32) &&& (((1 : Int32) <<< ((12 : Int32) &&& 31)) - (1 : Int32))))), .val (.int ((p1 ||| ((286331153 : Int32) &&& (((1 : Int32) <<< ((12 : Int32) &&& 31)) - (1 : Int32)))) &&& (((15 : Int32) <<< ((12 : Int32) &&& 31)) ^^^ (-1 : Int32)))), .val (.int (1 : Int32)), .unset] [(.int ((p1 ||| ((286331153 : Int32) &&& (((1 : Int32) <<< ((12 : Int32) &&& 31)) - (1 : Int32)))) &&& (((15 : Int32) <<< ((12 : Int32) &&& 31)) ^^^ (-1 : Int32))))])) _
              refine st44 _ ?_
              show Steps p.tables e below (T44.setTop (mkF m 81 #[.val (.int p1), .val (.int p2), .val (.int (3 : Int32)), .val (.int (((1 : Int32) <<< ((12 : Int32) &&& 31)) - (1 : Int32))), .val (.int (p1 ||| ((286331153 : Int32) &&& (((1 : Int32) <<< ((12 : Int32) &&& 31)) - (1 : Int32))))), .val (.int ((p1 ||| ((286331153 : Int32) &&& (((1 : Int32) <<< ((12 : Int32) &&& 31)) - (1 : Int32)))) &&& (((15 : Int32) <<< ((12 : Int32) &&& 31)) ^^^ (-1 : Int32)))), .val (.int (1 : Int32)), .unset] [(.int (own_f1 ((p1 ||| ((286331153 : Int32) &&& (((1 : Int32) <<< ((12 : Int32) &&& 31)) - (1 : Int32)))) &&& (((15 : Int32) <<< ((12 : Int32) &&& 31)) ^^^ (-1 : Int32)))))])) _
              refine XS.iloadN X44.here hx rfl (hb hby at_81) rfl ?_
              exact kt
            by_cases hc15 : (own_f1 ((p1 ||| ((286331153 : Int32) &&& (((1 : Int32) <<< ((12 : Int32) &&& 31)) - (1 : Int32)))) &&& (((15 : Int32) <<< ((12 : Int32) &&& 31)) ^^^ (-1 : Int32)))) = (3 : Int32)
            ·
              obtain ⟨fs, hr, hrun, hended, hW, hsame⟩ := X44.leave (v := some (.int (1 : Int32))) (fun h => by rw [Bd.returns] at h; cases h)
              refine ⟨_, _, k46 _ ?_, hrun, hended, _, _, rfl, ?_, ⟨_, rfl⟩, hW, hsame.mono (by decide) (by decide)⟩
              · show Steps p.tables e below (T44.setTop (mkF m 82 #[.val (.int p1), .val (.int p2), .val (.int (3 : Int32)), .val (.int (((1 : Int32) <<< ((12 : Int32) &&& 31)) - (1 : Int32))), .val (.int (p1 ||| ((286331153 : Int32) &&& (((1 : Int32) <<< ((12 : Int32) &&& 31)) - (1 : Int32))))), .val (.int ((p1 ||| ((286331153 : Int32) &&& (((1 : Int32) <<< ((12 : Int32) &&& 31)) - (1 : Int32)))) &&& (((15 : Int32) <<< ((12 : Int32) &&& 31)) ^^^ (-1 : Int32)))), .val (.int (1 : Int32)), .unset] [(.int (3 : Int32)), (.int (own_f1 ((p1 ||| ((286331153 : Int32) &&& (((1 : Int32) <<< ((12 : Int32) &&& 31)) - (1 : Int32)))) &&& (((15 : Int32) <<< ((12 : Int32) &&& 31)) ^^^ (-1 : Int32)))))])) _
                refine XS.icmpNo X44.here hx rfl (hb hby at_82) rfl (teq hc15).2 ?_
                show Steps p.tables e below (T44.setTop (mkF m 85 #[.val (.int p1), .val (.int p2), .val (.int (3 : Int32)), .val (.int (((1 : Int32) <<< ((12 : Int32) &&& 31)) - (1 : Int32))), .val (.int (p1 ||| ((286331153 : Int32) &&& (((1 : Int32) <<< ((12 : Int32) &&& 31)) - (1 : Int32))))), .val (.int ((p1 ||| ((286331153 : Int32) &&& (((1 : Int32) <<< ((12 : Int32) &&& 31)) - (1 : Int32)))) &&& (((15 : Int32) <<< ((12 : Int32) &&& 31)) ^^^ (-1 : Int32)))), .val (.int (1 : Int32)), .unset] [])) _
                refine XS.iconst X44.here hx rfl (hb hby at_85) ?_
                show Steps p.tables e below (T44.setTop (mkF m 86 #[.val (.int p1), .val (.int p2), .val (.int (3 : Int32)), .val (.int (((1 : Int32) <<< ((12 : Int32) &&& 31)) - (1 : Int32))), .val (.int (p1 ||| ((286331153 : Int32) &&& (((1 : Int32) <<< ((12 : Int32) &&& 31)) - (1 : Int32))))), .val (.int ((p1 ||| ((286331153 : Int32) &&& (((1 : Int32) <<< ((12 : Int32) &&& 31)) - (1 : Int32)))) &&& (((15 : Int32) <<< ((12 : Int32) &&& 31)) ^^^ (-1 : Int32)))), .val (.int (1 : Int32)), .unset] [(.int (1 : Int32))])) _
                refine XS.goto X44.here hx rfl (pc0 := 86) (pc' := 90) rfl (hb hby at_86) (by decide) (by decide) ?_
                show Steps p.tables e below (T44.setTop (mkF m 90 #[.val (.int p1), .val (.int p2), .val (.int (3 : Int32)), .val (.int (((1 : Int32) <<< ((12 : Int32) &&& 31)) - (1 : Int32))), .val (.int (p1 ||| ((286331153 : Int32) &&& (((1 : Int32) <<< ((12 : Int32) &&& 31)) - (1 : Int32))))), .val (.int ((p1 ||| ((286331153 : Int32) &&& (((1 : Int32) <<< ((12 : Int32) &&& 31)) - (1 : Int32)))) &&& (((15 : Int32) <<< ((12 : Int32) &&& 31)) ^^^ (-1 : Int32)))), .val (.int (1 : Int32)), .unset] [(.int (1 : Int32))])) _
                refine XS.istore X44.here hx rfl (hb hby at_90) rfl (l' := #[.val (.int p1), .val (.int p2), .val (.int (3 : Int32)), .val (.int (((1 : Int32) <<< ((12 : Int32) &&& 31)) - (1 : Int32))), .val (.int (p1 ||| ((286331153 : Int32) &&& (((1 : Int32) <<< ((12 : Int32) &&& 31)) - (1 : Int32))))), .val (.int ((p1 ||| ((286331153 : Int32) &&& (((1 : Int32) <<< ((12 : Int32) &&& 31)) - (1 : Int32)))) &&& (((15 : Int32) <<< ((12 : Int32) &&& 31)) ^^^ (-1 : Int32)))), .val (.int (1 : Int32)), .val (.int (1 : Int32))]) rfl ?_
                show Steps p.tables e below (T44.setTop (mkF m 92 #[.val (.int p1), .val (.int p2), .val (.int (3 : Int32)), .val (.int (((1 : Int32) <<< ((12 : Int32) &&& 31)) - (1 : Int32))), .val (.int (p1 ||| ((286331153 : Int32) &&& (((1 : Int32) <<< ((12 : Int32) &&& 31)) - (1 : Int32))))), .val (.int ((p1 ||| ((286331153 : Int32) &&& (((1 : Int32) <<< ((12 : Int32) &&& 31)) - (1 : Int32)))) &&& (((15 : Int32) <<< ((12 : Int32) &&& 31)) ^^^ (-1 : Int32)))), .val (.int (1 : Int32)), .val (.int (1 : Int32))] [])) _
                refine XS.iload X44.here hx rfl (hb hby at_92) rfl ?_
                show Steps p.tables e below (T44.setTop (mkF m 94 #[.val (.int p1), .val (.int p2), .val (.int (3 : Int32)), .val (.int (((1 : Int32) <<< ((12 : Int32) &&& 31)) - (1 : Int32))), .val (.int (p1 ||| ((286331153 : Int32) &&& (((1 : Int32) <<< ((12 : Int32) &&& 31)) - (1 : Int32))))), .val (.int ((p1 ||| ((286331153 : Int32) &&& (((1 : Int32) <<< ((12 : Int32) &&& 31)) - (1 : Int32)))) &&& (((15 : Int32) <<< ((12 : Int32) &&& 31)) ^^^ (-1 : Int32)))), .val (.int (1 : Int32)), .val (.int (1 : Int32))] [(.int (1 : Int32))])) _
                refine XS.ifNo X44.here hx rfl (hb hby at_94) rfl ((if0 _ _).trans (feq (by decide : ¬ ((1 : Int32) = (0 : Int32)))).1) ?_
                show Steps p.tables e below (T44.setTop (mkF m 97 #[.val (.int p1), .val (.int p2), .val (.int (3 : Int32)), .val (.int (((1 : Int32) <<< ((12 : Int32) &&& 31)) - (1 : Int32))), .val (.int (p1 ||| ((286331153 : Int32) &&& (((1 : Int32) <<< ((12 : Int32) &&& 31)) - (1 : Int32))))), .val (.int ((p1 ||| ((286331153 : Int32) &&& (((1 : Int32) <<< ((12 : Int32) &&& 31)) - (1 : Int32)))) &&& (((15 : Int32) <<< ((12 : Int32) &&& 31)) ^^^ (-1 : Int32)))), .val (.int (1 : Int32)), .val (.int (1 : Int32))] [])) _
                refine XS.iload X44.here hx rfl (hb hby at_97) rfl ?_
                show Steps p.tables e below (T44.setTop (mkF m 99 #[.val (.int p1), .val (.int p2), .val (.int (3 : Int32)), .val (.int (((1 : Int32) <<< ((12 : Int32) &&& 31)) - (1 : Int32))), .val (.int (p1 ||| ((286331153 : Int32) &&& (((1 : Int32) <<< ((12 : Int32) &&& 31)) - (1 : Int32))))), .val (.int ((p1 ||| ((286331153 : Int32) &&& (((1 : Int32) <<< ((12 : Int32) &&& 31)) - (1 : Int32)))) &&& (((15 : Int32) <<< ((12 : Int32) &&& 31)) ^^^ (-1 : Int32)))), .val (.int (1 : Int32)), .val (.int (1 : Int32))] [(.int (1 : Int32))])) _
                refine XS.ifNo X44.here hx rfl (hb hby at_99) rfl ((if0 _ _).trans (feq (by decide : ¬ ((1 : Int32) = (0 : Int32)))).1) ?_
                show Steps p.tables e below (T44.setTop (mkF m 102 #[.val (.int p1), .val (.int p2), .val (.int (3 : Int32)), .val (.int (((1 : Int32) <<< ((12 : Int32) &&& 31)) - (1 : Int32))), .val (.int (p1 ||| ((286331153 : Int32) &&& (((1 : Int32) <<< ((12 : Int32) &&& 31)) - (1 : Int32))))), .val (.int ((p1 ||| ((286331153 : Int32) &&& (((1 : Int32) <<< ((12 : Int32) &&& 31)) - (1 : Int32)))) &&& (((15 : Int32) <<< ((12 : Int32) &&& 31)) ^^^ (-1 : Int32)))), .val (.int (1 : Int32)), .val (.int (1 : Int32))] [])) _
                refine XS.iconst X44.here hx rfl (hb hby at_102) ?_
                show Steps p.tables e below (T44.setTop (mkF m 103 #[.val (.int p1), .val (.int p2), .val (.int (3 : Int32)), .val (.int (((1 : Int32) <<< ((12 : Int32) &&& 31)) - (1 : Int32))), .val (.int (p1 ||| ((286331153 : Int32) &&& (((1 : Int32) <<< ((12 : Int32) &&& 31)) - (1 : Int32))))), .val (.int ((p1 ||| ((286331153 : Int32) &&& (((1 : Int32) <<< ((12 : Int32) &&& 31)) - (1 : Int32)))) &&& (((15 : Int32) <<< ((12 : Int32) &&& 31)) ^^^ (-1 : Int32)))), .val (.int (1 : Int32)), .val (.int (1 : Int32))] [(.int (1 : Int32))])) _
                refine XS.goto X44.here hx rfl (pc0 := 103) (pc' := 107) rfl (hb hby at_103) (by decide) (by decide) ?_
                show Steps p.tables e below (T44.setTop (mkF m 107 #[.val (.int p1), .val (.int p2), .val (.int (3 : Int32)), .val (.int (((1 : Int32) <<< ((12 : Int32) &&& 31)) - (1 : Int32))), .val (.int (p1 ||| ((286331153 : Int32) &&& (((1 : Int32) <<< ((12 : Int32) &&& 31)) - (1 : Int32))))), .val (.int ((p1 ||| ((286331153 : Int32) &&& (((1 : Int32) <<< ((12 : Int32) &&& 31)) - (1 : Int32)))) &&& (((15 : Int32) <<< ((12 : Int32) &&& 31)) ^^^ (-1 : Int32)))), .val (.int (1 : Int32)), .val (.int (1 : Int32))] [(.int (1 : Int32))])) _
                exact retN X44 hx (t := .boolean) Bd.returns (by simp) (hb hby at_107) hr
              · show own_Q0 Z p1 p2 h0 n0 _ T44.heap _
                rw [e44]
                exact ⟨(by rw [own_f0, if_neg hc1, if_neg hc5, if_neg hc9, if_pos hc13, if_pos hc14, if_pos hc15]), N45⟩
            ·
              obtain ⟨fs, hr, hrun, hended, hW, hsame⟩ := X44.leave (v := some (.int (0 : Int32))) (fun h => by rw [Bd.returns] at h; cases h)
              refine ⟨_, _, k46 _ ?_, hrun, hended, _, _, rfl, ?_, ⟨_, rfl⟩, hW, hsame.mono (by decide) (by decide)⟩
              · show Steps p.tables e below (T44.setTop (mkF m 82 #[.val (.int p1), .val (.int p2), .val (.int (3 : Int32)), .val (.int (((1 : Int32) <<< ((12 : Int32) &&& 31)) - (1 : Int32))), .val (.int (p1 ||| ((286331153 : Int32) &&& (((1 : Int32) <<< ((12 : Int32) &&& 31)) - (1 : Int32))))), .val (.int ((p1 ||| ((286331153 : Int32) &&& (((1 : Int32) <<< ((12 : Int32) &&& 31)) - (1 : Int32)))) &&& (((15 : Int32) <<< ((12 : Int32) &&& 31)) ^^^ (-1 : Int32)))), .val (.int (1 : Int32)), .unset] [(.int (3 : Int32)), (.int (own_f1 ((p1 ||| ((286331153 : Int32) &&& (((1 : Int32) <<< ((12 : Int32) &&& 31)) - (1 : Int32)))) &&& (((15 : Int32) <<< ((12 : Int32) &&& 31)) ^^^ (-1 : Int32)))))])) _
                refine XS.icmpYes X44.here hx rfl (pc0 := 82) (pc' := 89) rfl (hb hby at_82) rfl (feq hc15).2 (by decide) (by decide) ?_
                show Steps p.tables e below (T44.setTop (mkF m 89 #[.val (.int p1), .val (.int p2), .val (.int (3 : Int32)), .val (.int (((1 : Int32) <<< ((12 : Int32) &&& 31)) - (1 : Int32))), .val (.int (p1 ||| ((286331153 : Int32) &&& (((1 : Int32) <<< ((12 : Int32) &&& 31)) - (1 : Int32))))), .val (.int ((p1 ||| ((286331153 : Int32) &&& (((1 : Int32) <<< ((12 : Int32) &&& 31)) - (1 : Int32)))) &&& (((15 : Int32) <<< ((12 : Int32) &&& 31)) ^^^ (-1 : Int32)))), .val (.int (1 : Int32)), .unset] [])) _
                refine XS.iconst X44.here hx rfl (hb hby at_89) ?_
                show Steps p.tables e below (T44.setTop (mkF m 90 #[.val (.int p1), .val (.int p2), .val (.int (3 : Int32)), .val (.int (((1 : Int32) <<< ((12 : Int32) &&& 31)) - (1 : Int32))), .val (.int (p1 ||| ((286331153 : Int32) &&& (((1 : Int32) <<< ((12 : Int32) &&& 31)) - (1 : Int32))))), .val (.int ((p1 ||| ((286331153 : Int32) &&& (((1 : Int32) <<< ((12 : Int32) &&& 31)) - (1 : Int32)))) &&& (((15 : Int32) <<< ((12 : Int32) &&& 31)) ^^^ (-1 : Int32)))), .val (.int (1 : Int32)), .unset] [(.int (0 : Int32))])) _
                refine XS.istore X44.here hx rfl (hb hby at_90) rfl (l' := #[.val (.int p1), .val (.int p2), .val (.int (3 : Int32)), .val (.int (((1 : Int32) <<< ((12 : Int32) &&& 31)) - (1 : Int32))), .val (.int (p1 ||| ((286331153 : Int32) &&& (((1 : Int32) <<< ((12 : Int32) &&& 31)) - (1 : Int32))))), .val (.int ((p1 ||| ((286331153 : Int32) &&& (((1 : Int32) <<< ((12 : Int32) &&& 31)) - (1 : Int32)))) &&& (((15 : Int32) <<< ((12 : Int32) &&& 31)) ^^^ (-1 : Int32)))), .val (.int (1 : Int32)), .val (.int (0 : Int32))]) rfl ?_
                show Steps p.tables e below (T44.setTop (mkF m 92 #[.val (.int p1), .val (.int p2), .val (.int (3 : Int32)), .val (.int (((1 : Int32) <<< ((12 : Int32) &&& 31)) - (1 : Int32))), .val (.int (p1 ||| ((286331153 : Int32) &&& (((1 : Int32) <<< ((12 : Int32) &&& 31)) - (1 : Int32))))), .val (.int ((p1 ||| ((286331153 : Int32) &&& (((1 : Int32) <<< ((12 : Int32) &&& 31)) - (1 : Int32)))) &&& (((15 : Int32) <<< ((12 : Int32) &&& 31)) ^^^ (-1 : Int32)))), .val (.int (1 : Int32)), .val (.int (0 : Int32))] [])) _
                refine XS.iload X44.here hx rfl (hb hby at_92) rfl ?_
                show Steps p.tables e below (T44.setTop (mkF m 94 #[.val (.int p1), .val (.int p2), .val (.int (3 : Int32)), .val (.int (((1 : Int32) <<< ((12 : Int32) &&& 31)) - (1 : Int32))), .val (.int (p1 ||| ((286331153 : Int32) &&& (((1 : Int32) <<< ((12 : Int32) &&& 31)) - (1 : Int32))))), .val (.int ((p1 ||| ((286331153 : Int32) &&& (((1 : Int32) <<< ((12 : Int32) &&& 31)) - (1 : Int32)))) &&& (((15 : Int32) <<< ((12 : Int32) &&& 31)) ^^^ (-1 : Int32)))), .val (.int (1 : Int32)), .val (.int (0 : Int32))] [(.int (1 : Int32))])) _
                refine XS.ifNo X44.here hx rfl (hb hby at_94) rfl ((if0 _ _).trans (feq (by decide : ¬ ((1 : Int32) = (0 : Int32)))).1) ?_
                show Steps p.tables e below (T44.setTop (mkF m 97 #[.val (.int p1), .val (.int p2), .val (.int (3 : Int32)), .val (.int (((1 : Int32) <<< ((12 : Int32) &&& 31)) - (1 : Int32))), .val (.int (p1 ||| ((286331153 : Int32) &&& (((1 : Int32) <<< ((12 : Int32) &&& 31)) - (1 : Int32))))), .val (.int ((p1 ||| ((286331153 : Int32) &&& (((1 : Int32) <<< ((12 : Int32) &&& 31)) - (1 : Int32)))) &&& (((15 : Int32) <<< ((12 : Int32) &&& 31)) ^^^ (-1 : Int32)))), .val (.int (1 : Int32)), .val (.int (0 : Int32))] [])) _
                refine XS.iload X44.here hx rfl (hb hby at_97) rfl ?_
                show Steps p.tables e below (T44.setTop (mkF m 99 #[.val (.int p1), .val (.int p2), .val (.int (3 : Int32)), .val (.int (((1 : Int32) <<< ((12 : Int32) &&& 31)) - (1 : Int32))), .val (.int (p1 ||| ((286331153 : Int32) &&& (((1 : Int32) <<< ((12 : Int32) &&& 31)) - (1 : Int32))))), .val (.int ((p1 ||| ((286331153 : Int32) &&& (((1 : Int32) <<< ((12 : Int32) &&& 31)) - (1 : Int32)))) &&& (((15 : Int32) <<< ((12 : Int32) &&& 31)) ^^^ (-1 : Int32)))), .val (.int (1 : Int32)), .val (.int (0 : Int32))] [(.int (0 : Int32))])) _
                refine XS.ifYes X44.here hx rfl (pc0 := 99) (pc' := 106) rfl (hb hby at_99) rfl ((if0 _ _).trans (teq (by decide : (0 : Int32) = (0 : Int32))).1) (by decide) (by decide) ?_
                show Steps p.tables e below (T44.setTop (mkF m 106 #[.val (.int p1), .val (.int p2), .val (.int (3 : Int32)), .val (.int (((1 : Int32) <<< ((12 : Int32) &&& 31)) - (1 : Int32))), .val (.int (p1 ||| ((286331153 : Int32) &&& (((1 : Int32) <<< ((12 : Int32) &&& 31)) - (1 : Int32))))), .val (.int ((p1 ||| ((286331153 : Int32) &&& (((1 : Int32) <<< ((12 : Int32) &&& 31)) - (1 : Int32)))) &&& (((15 : Int32) <<< ((12 : Int32) &&& 31)) ^^^ (-1 : Int32)))), .val (.int (1 : Int32)), .val (.int (0 : Int32))] [])) _
                refine XS.iconst X44.here hx rfl (hb hby at_106) ?_
                show Steps p.tables e below (T44.setTop (mkF m 107 #[.val (.int p1), .val (.int p2), .val (.int (3 : Int32)), .val (.int (((1 : Int32) <<< ((12 : Int32) &&& 31)) - (1 : Int32))), .val (.int (p1 ||| ((286331153 : Int32) &&& (((1 : Int32) <<< ((12 : Int32) &&& 31)) - (1 : Int32))))), .val (.int ((p1 ||| ((286331153 : Int32) &&& (((1 : Int32) <<< ((12 : Int32) &&& 31)) - (1 : Int32)))) &&& (((15 : Int32) <<< ((12 : Int32) &&& 31)) ^^^ (-1 : Int32)))), .val (.int (1 : Int32)), .val (.int (0 : Int32))] [(.int (0 : Int32))])) _
                exact retN X44 hx (t := .boolean) Bd.returns (by simp) (hb hby at_107) hr
              · show own_Q0 Z p1 p2 h0 n0 _ T44.heap _
                rw [e44]
                exact ⟨(by rw [own_f0, if_neg hc1, if_neg hc5, if_neg hc9, if_pos hc13, if_pos hc14, if_neg hc15]), N45⟩
          ·
            obtain ⟨v47, _, ⟨T47, L47, k47, n47⟩, -, X47, ⟨Lc47, hQ47, l47, y47, z47⟩, st47⟩ := Jvm.LawKit.callS X41 hx (y := (⟨"com/example/kerb/kerb/txn/SoleLocks", "length", "(I)I"⟩ : MethodName)) hown (mvT hZ (hw _ (List.mem_of_getElem? (i := 2) rfl))) (mvT hZ (hw _ (List.mem_of_getElem? (i := 3) rfl))) (mvT hZ (hw _ (List.mem_of_getElem? (i := 4) rfl))) (mvT hZ (hw _ (List.mem_of_getElem? (i := 5) rfl))) (by decide) (backOf (W := 0) (own_rm1 l Z a0 hw [] ((p1 ||| ((286331153 : Int32) &&& (((1 : Int32) <<< ((12 : Int32) &&& 31)) - (1 : Int32)))) &&& (((15 : Int32) <<< ((12 : Int32) &&& 31)) ^^^ (-1 : Int32))) h0 n0 Z0) hZ (hw _ (List.mem_of_getElem? (i := 5) rfl)) (hw _ (List.mem_of_getElem? (i := 4) rfl)) (by decide) (by decide)) (g := (mkF m 78 #[.val (.int p1), .val (.int p2), .val (.int (3 : Int32)), .val (.int (((1 : Int32) <<< ((12 : Int32) &&& 31)) - (1 : Int32))), .val (.int (p1 ||| ((286331153 : Int32) &&& (((1 : Int32) <<< ((12 : Int32) &&& 31)) - (1 : Int32))))), .val (.int ((p1 ||| ((286331153 : Int32) &&& (((1 : Int32) <<< ((12 : Int32) &&& 31)) - (1 : Int32)))) &&& (((15 : Int32) <<< ((12 : Int32) &&& 31)) ^^^ (-1 : Int32)))), .val (.int (0 : Int32)), .unset] [(.int ((p1 ||| ((286331153 : Int32) &&& (((1 : Int32) <<< ((12 : Int32) &&& 31)) - (1 : Int32)))) &&& (((15 : Int32) <<< ((12 : Int32) &&& 31)) ^^^ (-1 : Int32))))])) rfl (by rw [hml]; rfl) (argsL := [(.int ((p1 ||| ((286331153 : Int32) &&& (((1 : Int32) <<< ((12 : Int32) &&& 31)) - (1 : Int32)))) &&& (((15 : Int32) <<< ((12 : Int32) &&& 31)) ^^^ (-1 : Int32))))]) (rest := []) (lenOf own_pd69 rfl) rfl (by show 2 * 0 + _ ≤ _; exact Nat.le_of_eq rfl) (hb hby at_78) (fun _ _ => ⟨rfl, e41, (by decide : 0 + 0 ≤ _), (by decide : 0 + 0 ≤ _)⟩)
            dsimp only [Pt.U, Pt.locs, Pt.cells, Pt.slots] at X47 l47 y47 z47 st47 hQ47
            subst l47 y47 z47
            obtain ⟨rfl, N47q, e47⟩ := hQ47
            have N48 := Fr.app N42 N47q
            have k49 : ∀ t, Steps p.tables e below (T47.setTop (mkF m 82 #[.val (.int p1), .val (.int p2), .val (.int (3 : Int32)), .val (.int (((1 : Int32) <<< ((12 : Int32) &&& 31)) - (1 : Int32))), .val (.int (p1 ||| ((286331153 : Int32) &&& (((1 : Int32) <<< ((12 : Int32) &&& 31)) - (1 : Int32))))), .val (.int ((p1 ||| ((286331153 : Int32) &&& (((1 : Int32) <<< ((12 : Int32) &&& 31)) - (1 : Int32)))) &&& (((15 : Int32) <<< ((12 : Int32) &&& 31)) ^^^ (-1 : Int32)))), .val (.int (0 : Int32)), .unset] [(.int (3 : Int32)), (.int (own_f1 ((p1 ||| ((286331153 : Int32) &&& (((1 : Int32) <<< ((12 : Int32) &&& 31)) - (1 : Int32)))) &&& (((15 : Int32) <<< ((12 : Int32) &&& 31)) ^^^ (-1 : Int32)))))])) t → Steps p.tables e below (s₁.setTop (entryFrame m #[(.int p1), (.int p2)] maxLocals)) t := by
              intro t kt
              refine k43 t ?_
              show Steps p.tables e below (T41.setTop (mkF m 66 #[.val (.int p1), .val (.int p2), .val (.int (3 : Int32)), .val (.int (((1 : Int32) <<< ((12 : Int32) &&& 31)) - (1 : Int32))), .val (.int (p1 ||| ((286331153 : Int32) &&& (((1 : Int32) <<< ((12 : Int32) &&& 31)) - (1 : Int32))))), .val (.int ((p1 ||| ((286331153 : Int32) &&& (((1 : Int32) <<< ((12 : Int32) &&& 31)) - (1 : Int32)))) &&& (((15 : Int32) <<< ((12 : Int32) &&& 31)) ^^^ (-1 : Int32)))), .unset, .unset] [(.int (own_f2 p1)), (.int (own_f1 p1))])) _
              refine XS.icmpYes X41.here hx rfl (pc0 := 66) (pc' := 73) rfl (hb hby at_66) rfl (feq hc14).2 (by decide) (by decide) ?_
              show Steps p.tables e below (T41.setTop (mkF m 73 #[.val (.int p1), .val (.int p2), .val (.int (3 : Int32)), .val (.int (((1 : Int32) <<< ((12 : Int32) &&& 31)) - (1 : Int32))), .val (.int (p1 ||| ((286331153 : Int32) &&& (((1 : Int32) <<< ((12 : Int32) &&& 31)) - (1 : Int32))))), .val (.int ((p1 ||| ((286331153 : Int32) &&& (((1 : Int32) <<< ((12 : Int32) &&& 31)) - (1 : Int32)))) &&& (((15 : Int32) <<< ((12 : Int32) &&& 31)) ^^^ (-1 : Int32)))), .unset, .unset] [])) _
              refine XS.iconst X41.here hx rfl (hb hby at_73) ?_
              show Steps p.tables e below (T41.setTop (mkF m 74 #[.val (.int p1), .val (.int p2), .val (.int (3 : Int32)), .val (.int (((1 : Int32) <<< ((12 : Int32) &&& 31)) - (1 : Int32))), .val (.int (p1 ||| ((286331153 : Int32) &&& (((1 : Int32) <<< ((12 : Int32) &&& 31)) - (1 : Int32))))), .val (.int ((p1 ||| ((286331153 : Int32) &&& (((1 : Int32) <<< ((12 : Int32) &&& 31)) - (1 : Int32)))) &&& (((15 : Int32) <<< ((12 : Int32) &&& 31)) ^^^ (-1 : Int32)))), .unset, .unset] [(.int (0 : Int32))])) _
              refine XS.istore X41.here hx rfl (hb hby at_74) rfl (l' := #[.val (.int p1), .val (.int p2), .val (.int (3 : Int32)), .val (.int (((1 : Int32) <<< ((12 : Int32) &&& 31)) - (1 : Int32))), .val (.int (p1 ||| ((286331153 : Int32) &&& (((1 : Int32) <<< ((12 : Int32) &&& 31)) - (1 : Int32))))), .val (.int ((p1 ||| ((286331153 : Int32) &&& (((1 : Int32) <<< ((12 : Int32) &&& 31)) - (1 : Int32)))) &&& (((15 : Int32) <<< ((12 : Int32) &&& 31)) ^^^ (-1 : Int32)))), .val (.int (0 : Int32)), .unset]) rfl ?_
              show Steps p.tables e below (T41.setTop (mkF m 76 #[.val (.int p1), .val (.int p2), .val (.int (3 : Int32)), .val (.int (((1 : Int32) <<< ((12 : Int32) &&& 31)) - (1 : Int32))), .val (.int (p1 ||| ((286331153 : Int32) &&& (((1 : Int32) <<< ((12 : Int32) &&& 31)) - (1 : Int32))))), .val (.int ((p1 ||| ((286331153 : Int32) &&& (((1 : Int32) <<< ((12 : Int32) &&& 31)) - (1 : Int32)))) &&& (((15 : Int32) <<< ((12 : Int32) &&& 31)) ^^^ (-1 : Int32)))), .val (.int (0 : Int32)), .unset] [])) _
              refine XS.iload X41.here hx rfl (hb hby at_76) rfl ?_
              show Steps p.tables e below (T41.setTop (mkF m 78 #[.val (.int p1), .val (.int p2), .val (.int (3 : Int32)), .val (.int (((1 : Int32) <<< ((12 : Int32) &&& 31)) - (1 : Int32))), .val (.int (p1 ||| ((286331153 : Int32) &&& (((1 : Int32) <<< ((12 : Int32) &&& 31)) - (1 : Int32))))), .val (.int ((p1 ||| ((286331153 : Int32) &&& (((1 : Int32) <<< ((12 : Int32) &&& 31)) - (1 : Int32)))) &&& (((15 : Int32) <<< ((12 : Int32) &&& 31)) ^^^ (-1 : Int32)))), .val (.int (0 : Int32)), .unset] [(.int ((p1 ||| ((286331153 : Int32) &&& (((1 : Int32) <<< ((12 : Int32) &&& 31)) - (1 : Int32)))) &&& (((15 : Int32) <<< ((12 : Int32) &&& 31)) ^^^ (-1 : Int32))))])) _
              refine st47 _ ?_
              show Steps p.tables e below (T47.setTop (mkF m 81 #[.val (.int p1), .val (.int p2), .val (.int (3 : Int32)), .val (.int (((1 : Int32) <<< ((12 : Int32) &&& 31)) - (1 : Int32))), .val (.int (p1 ||| ((286331153 : Int32) &&& (((1 : Int32) <<< ((12 : Int32) &&& 31)) - (1 : Int32))))), .val (.int ((p1 ||| ((286331153 : Int32) &&& (((1 : Int32) <<< ((12 : Int32) &&& 31)) - (1 : Int32)))) &&& (((15 : Int32) <<< ((12 : Int32) &&& 31)) ^^^ (-1 : Int32)))), .val (.int (0 : Int32)), .unset] [(.int (own_f1 ((p1 ||| ((286331153 : Int32) &&& (((1 : Int32) <<< ((12 : Int32) &&& 31)) - (1 : Int32)))) &&& (((15 : Int32) <<< ((12 : Int32) &&& 31)) ^^^ (-1 : Int32)))))])) _
              refine XS.iloadN X47.here hx rfl (hb hby at_81) rfl ?_
              exact kt
            by_cases hc16 : (own_f1 ((p1 ||| ((286331153 : Int32) &&& (((1 : Int32) <<< ((12 : Int32) &&& 31)) - (1 : Int32)))) &&& (((15 : Int32) <<< ((12 : Int32) &&& 31)) ^^^ (-1 : Int32)))) = (3 : Int32)
            ·
              obtain ⟨fs, hr, hrun, hended, hW, hsame⟩ := X47.leave (v := some (.int (0 : Int32))) (fun h => by rw [Bd.returns] at h; cases h)
              refine ⟨_, _, k49 _ ?_, hrun, hended, _, _, rfl, ?_, ⟨_, rfl⟩, hW, hsame.mono (by decide) (by decide)⟩
              · show Steps p.tables e below (T47.setTop (mkF m 82 #[.val (.int p1), .val (.int p2), .val (.int (3 : Int32)), .val (.int (((1 : Int32) <<< ((12 : Int32) &&& 31)) - (1 : Int32))), .val (.int (p1 ||| ((286331153 : Int32) &&& (((1 : Int32) <<< ((12 : Int32) &&& 31)) - (1 : Int32))))), .val (.int ((p1 ||| ((286331153 : Int32) &&& (((1 : Int32) <<< ((12 : Int32) &&& 31)) - (1 : Int32)))) &&& (((15 : Int32) <<< ((12 : Int32) &&& 31)) ^^^ (-1 : Int32)))), .val (.int (0 : Int32)), .unset] [(.int (3 : Int32)), (.int (own_f1 ((p1 ||| ((286331153 : Int32) &&& (((1 : Int32) <<< ((12 : Int32) &&& 31)) - (1 : Int32)))) &&& (((15 : Int32) <<< ((12 : Int32) &&& 31)) ^^^ (-1 : Int32)))))])) _
                refine XS.icmpNo X47.here hx rfl (hb hby at_82) rfl (teq hc16).2 ?_
                show Steps p.tables e below (T47.setTop (mkF m 85 #[.val (.int p1), .val (.int p2), .val (.int (3 : Int32)), .val (.int (((1 : Int32) <<< ((12 : Int32) &&& 31)) - (1 : Int32))), .val (.int (p1 ||| ((286331153 : Int32) &&& (((1 : Int32) <<< ((12 : Int32) &&& 31)) - (1 : Int32))))), .val (.int ((p1 ||| ((286331153 : Int32) &&& (((1 : Int32) <<< ((12 : Int32) &&& 31)) - (1 : Int32)))) &&& (((15 : Int32) <<< ((12 : Int32) &&& 31)) ^^^ (-1 : Int32)))), .val (.int (0 : Int32)), .unset] [])) _
                refine XS.iconst X47.here hx rfl (hb hby at_85) ?_
                show Steps p.tables e below (T47.setTop (mkF m 86 #[.val (.int p1), .val (.int p2), .val (.int (3 : Int32)), .val (.int (((1 : Int32) <<< ((12 : Int32) &&& 31)) - (1 : Int32))), .val (.int (p1 ||| ((286331153 : Int32) &&& (((1 : Int32) <<< ((12 : Int32) &&& 31)) - (1 : Int32))))), .val (.int ((p1 ||| ((286331153 : Int32) &&& (((1 : Int32) <<< ((12 : Int32) &&& 31)) - (1 : Int32)))) &&& (((15 : Int32) <<< ((12 : Int32) &&& 31)) ^^^ (-1 : Int32)))), .val (.int (0 : Int32)), .unset] [(.int (1 : Int32))])) _
                refine XS.goto X47.here hx rfl (pc0 := 86) (pc' := 90) rfl (hb hby at_86) (by decide) (by decide) ?_
                show Steps p.tables e below (T47.setTop (mkF m 90 #[.val (.int p1), .val (.int p2), .val (.int (3 : Int32)), .val (.int (((1 : Int32) <<< ((12 : Int32) &&& 31)) - (1 : Int32))), .val (.int (p1 ||| ((286331153 : Int32) &&& (((1 : Int32) <<< ((12 : Int32) &&& 31)) - (1 : Int32))))), .val (.int ((p1 ||| ((286331153 : Int32) &&& (((1 : Int32) <<< ((12 : Int32) &&& 31)) - (1 : Int32)))) &&& (((15 : Int32) <<< ((12 : Int32) &&& 31)) ^^^ (-1 : Int32)))), .val (.int (0 : Int32)), .unset] [(.int (1 : Int32))])) _
                refine XS.istore X47.here hx rfl (hb hby at_90) rfl (l' := #[.val (.int p1), .val (.int p2), .val (.int (3 : Int32)), .val (.int (((1 : Int32) <<< ((12 : Int32) &&& 31)) - (1 : Int32))), .val (.int (p1 ||| ((286331153 : Int32) &&& (((1 : Int32) <<< ((12 : Int32) &&& 31)) - (1 : Int32))))), .val (.int ((p1 ||| ((286331153 : Int32) &&& (((1 : Int32) <<< ((12 : Int32) &&& 31)) - (1 : Int32)))) &&& (((15 : Int32) <<< ((12 : Int32) &&& 31)) ^^^ (-1 : Int32)))), .val (.int (0 : Int32)), .val (.int (1 : Int32))]) rfl ?_
                show Steps p.tables e below (T47.setTop (mkF m 92 #[.val (.int p1), .val (.int p2), .val (.int (3 : Int32)), .val (.int (((1 : Int32) <<< ((12 : Int32) &&& 31)) - (1 : Int32))), .val (.int (p1 ||| ((286331153 : Int32) &&& (((1 : Int32) <<< ((12 : Int32) &&& 31)) - (1 : Int32))))), .val (.int ((p1 ||| ((286331153 : Int32) &&& (((1 : Int32) <<< ((12 : Int32) &&& 31)) - (1 : Int32)))) &&& (((15 : Int32) <<< ((12 : Int32) &&& 31)) ^^^ (-1 : Int32)))), .val (.int (0 : Int32)), .val (.int (1 : Int32))] [])) _
                refine XS.iload X47.here hx rfl (hb hby at_92) rfl ?_
                show Steps p.tables e below (T47.setTop (mkF m 94 #[.val (.int p1), .val (.int p2), .val (.int (3 : Int32)), .val (.int (((1 : Int32) <<< ((12 : Int32) &&& 31)) - (1 : Int32))), .val (.int (p1 ||| ((286331153 : Int32) &&& (((1 : Int32) <<< ((12 : Int32) &&& 31)) - (1 : Int32))))), .val (.int ((p1 ||| ((286331153 : Int32) &&& (((1 : Int32) <<< ((12 : Int32) &&& 31)) - (1 : Int32)))) &&& (((15 : Int32) <<< ((12 : Int32) &&& 31)) ^^^ (-1 : Int32)))), .val (.int (0 : Int32)), .val (.int (1 : Int32))] [(.int (0 : Int32))])) _
                refine XS.ifYes X47.here hx rfl (pc0 := 94) (pc' := 106) rfl (hb hby at_94) rfl ((if0 _ _).trans (teq (by decide : (0 : Int32) = (0 : Int32))).1) (by decide) (by decide) ?_
                show Steps p.tables e below (T47.setTop (mkF m 106 #[.val (.int p1), .val (.int p2), .val (.int (3 : Int32)), .val (.int (((1 : Int32) <<< ((12 : Int32) &&& 31)) - (1 : Int32))), .val (.int (p1 ||| ((286331153 : Int32) &&& (((1 : Int32) <<< ((12 : Int32) &&& 31)) - (1 : Int32))))), .val (.int ((p1 ||| ((286331153 : Int32) &&& (((1 : Int32) <<< ((12 : Int32) &&& 31)) - (1 : Int32)))) &&& (((15 : Int32) <<< ((12 : Int32) &&& 31)) ^^^ (-1 : Int32)))), .val (.int (0 : Int32)), .val (.int (1 : Int32))] [])) _
                refine XS.iconst X47.here hx rfl (hb hby at_106) ?_
                show Steps p.tables e below (T47.setTop (mkF m 107 #[.val (.int p1), .val (.int p2), .val (.int (3 : Int32)), .val (.int (((1 : Int32) <<< ((12 : Int32) &&& 31)) - (1 : Int32))), .val (.int (p1 ||| ((286331153 : Int32) &&& (((1 : Int32) <<< ((12 : Int32) &&& 31)) - (1 : Int32))))), .val (.int ((p1 ||| ((286331153 : Int32) &&& (((1 : Int32) <<< ((12 : Int32) &&& 31)) - (1 : Int32)))) &&& (((15 : Int32) <<< ((12 : Int32) &&& 31)) ^^^ (-1 : Int32)))), .val (.int (0 : Int32)), .val (.int (1 : Int32))] [(.int (0 : Int32))])) _
                exact retN X47 hx (t := .boolean) Bd.returns (by simp) (hb hby at_107) hr
              · show own_Q0 Z p1 p2 h0 n0 _ T47.heap _
                rw [e47]
                exact ⟨(by rw [own_f0, if_neg hc1, if_neg hc5, if_neg hc9, if_pos hc13, if_neg hc14, if_pos hc16]), N48⟩
            ·
              obtain ⟨fs, hr, hrun, hended, hW, hsame⟩ := X47.leave (v := some (.int (0 : Int32))) (fun h => by rw [Bd.returns] at h; cases h)
              refine ⟨_, _, k49 _ ?_, hrun, hended, _, _, rfl, ?_, ⟨_, rfl⟩, hW, hsame.mono (by decide) (by decide)⟩
              · show Steps p.tables e below (T47.setTop (mkF m 82 #[.val (.int p1), .val (.int p2), .val (.int (3 : Int32)), .val (.int (((1 : Int32) <<< ((12 : Int32) &&& 31)) - (1 : Int32))), .val (.int (p1 ||| ((286331153 : Int32) &&& (((1 : Int32) <<< ((12 : Int32) &&& 31)) - (1 : Int32))))), .val (.int ((p1 ||| ((286331153 : Int32) &&& (((1 : Int32) <<< ((12 : Int32) &&& 31)) - (1 : Int32)))) &&& (((15 : Int32) <<< ((12 : Int32) &&& 31)) ^^^ (-1 : Int32)))), .val (.int (0 : Int32)), .unset] [(.int (3 : Int32)), (.int (own_f1 ((p1 ||| ((286331153 : Int32) &&& (((1 : Int32) <<< ((12 : Int32) &&& 31)) - (1 : Int32)))) &&& (((15 : Int32) <<< ((12 : Int32) &&& 31)) ^^^ (-1 : Int32)))))])) _
                refine XS.icmpYes X47.here hx rfl (pc0 := 82) (pc' := 89) rfl (hb hby at_82) rfl (feq hc16).2 (by decide) (by decide) ?_
                show Steps p.tables e below (T47.setTop (mkF m 89 #[.val (.int p1), .val (.int p2), .val (.int (3 : Int32)), .val (.int (((1 : Int32) <<< ((12 : Int32) &&& 31)) - (1 : Int32))), .val (.int (p1 ||| ((286331153 : Int32) &&& (((1 : Int32) <<< ((12 : Int32) &&& 31)) - (1 : Int32))))), .val (.int ((p1 ||| ((286331153 : Int32) &&& (((1 : Int32) <<< ((12 : Int32) &&& 31)) - (1 : Int32)))) &&& (((15 : Int32) <<< ((12 : Int32) &&& 31)) ^^^ (-1 : Int32)))), .val (.int (0 : Int32)), .unset] [])) _
                refine XS.iconst X47.here hx rfl (hb hby at_89) ?_
                show Steps p.tables e below (T47.setTop (mkF m 90 #[.val (.int p1), .val (.int p2), .val (.int (3 : Int32)), .val (.int (((1 : Int32) <<< ((12 : Int32) &&& 31)) - (1 : Int32))), .val (.int (p1 ||| ((286331153 : Int32) &&& (((1 : Int32) <<< ((12 : Int32) &&& 31)) - (1 : Int32))))), .val (.int ((p1 ||| ((286331153 : Int32) &&& (((1 : Int32) <<< ((12 : Int32) &&& 31)) - (1 : Int32)))) &&& (((15 : Int32) <<< ((12 : Int32) &&& 31)) ^^^ (-1 : Int32)))), .val (.int (0 : Int32)), .unset] [(.int (0 : Int32))])) _
                refine XS.istore X47.here hx rfl (hb hby at_90) rfl (l' := #[.val (.int p1), .val (.int p2), .val (.int (3 : Int32)), .val (.int (((1 : Int32) <<< ((12 : Int32) &&& 31)) - (1 : Int32))), .val (.int (p1 ||| ((286331153 : Int32) &&& (((1 : Int32) <<< ((12 : Int32) &&& 31)) - (1 : Int32))))), .val (.int ((p1 ||| ((286331153 : Int32) &&& (((1 : Int32) <<< ((12 : Int32) &&& 31)) - (1 : Int32)))) &&& (((15 : Int32) <<< ((12 : Int32) &&& 31)) ^^^ (-1 : Int32)))), .val (.int (0 : Int32)), .val (.int (0 : Int32))]) rfl ?_
                show Steps p.tables e below (T47.setTop (mkF m 92 #[.val (.int p1), .val (.int p2), .val (.int (3 : Int32)), .val (.int (((1 : Int32) <<< ((12 : Int32) &&& 31)) - (1 : Int32))), .val (.int (p1 ||| ((286331153 : Int32) &&& (((1 : Int32) <<< ((12 : Int32) &&& 31)) - (1 : Int32))))), .val (.int ((p1 ||| ((286331153 : Int32) &&& (((1 : Int32) <<< ((12 : Int32) &&& 31)) - (1 : Int32)))) &&& (((15 : Int32) <<< ((12 : Int32) &&& 31)) ^^^ (-1 : Int32)))), .val (.int (0 : Int32)), .val (.int (0 : Int32))] [])) _
                refine XS.iload X47.here hx rfl (hb hby at_92) rfl ?_
                show Steps p.tables e below (T47.setTop (mkF m 94 #[.val (.int p1), .val (.int p2), .val (.int (3 : Int32)), .val (.int (((1 : Int32) <<< ((12 : Int32) &&& 31)) - (1 : Int32))), .val (.int (p1 ||| ((286331153 : Int32) &&& (((1 : Int32) <<< ((12 : Int32) &&& 31)) - (1 : Int32))))), .val (.int ((p1 ||| ((286331153 : Int32) &&& (((1 : Int32) <<< ((12 : Int32) &&& 31)) - (1 : Int32)))) &&& (((15 : Int32) <<< ((12 : Int32) &&& 31)) ^^^ (-1 : Int32)))), .val (.int (0 : Int32)), .val (.int (0 : Int32))] [(.int (0 : Int32))])) _
                refine XS.ifYes X47.here hx rfl (pc0 := 94) (pc' := 106) rfl (hb hby at_94) rfl ((if0 _ _).trans (teq (by decide : (0 : Int32) = (0 : Int32))).1) (by decide) (by decide) ?_
                show Steps p.tables e below (T47.setTop (mkF m 106 #[.val (.int p1), .val (.int p2), .val (.int (3 : Int32)), .val (.int (((1 : Int32) <<< ((12 : Int32) &&& 31)) - (1 : Int32))), .val (.int (p1 ||| ((286331153 : Int32) &&& (((1 : Int32) <<< ((12 : Int32) &&& 31)) - (1 : Int32))))), .val (.int ((p1 ||| ((286331153 : Int32) &&& (((1 : Int32) <<< ((12 : Int32) &&& 31)) - (1 : Int32)))) &&& (((15 : Int32) <<< ((12 : Int32) &&& 31)) ^^^ (-1 : Int32)))), .val (.int (0 : Int32)), .val (.int (0 : Int32))] [])) _
                refine XS.iconst X47.here hx rfl (hb hby at_106) ?_
                show Steps p.tables e below (T47.setTop (mkF m 107 #[.val (.int p1), .val (.int p2), .val (.int (3 : Int32)), .val (.int (((1 : Int32) <<< ((12 : Int32) &&& 31)) - (1 : Int32))), .val (.int (p1 ||| ((286331153 : Int32) &&& (((1 : Int32) <<< ((12 : Int32) &&& 31)) - (1 : Int32))))), .val (.int ((p1 ||| ((286331153 : Int32) &&& (((1 : Int32) <<< ((12 : Int32) &&& 31)) - (1 : Int32)))) &&& (((15 : Int32) <<< ((12 : Int32) &&& 31)) ^^^ (-1 : Int32)))), .val (.int (0 : Int32)), .val (.int (0 : Int32))] [(.int (0 : Int32))])) _
                exact retN X47 hx (t := .boolean) Bd.returns (by simp) (hb hby at_107) hr
              · show own_Q0 Z p1 p2 h0 n0 _ T47.heap _
                rw [e47]
                exact ⟨(by rw [own_f0, if_neg hc1, if_neg hc5, if_neg hc9, if_pos hc13, if_neg hc14, if_neg hc16]), N48⟩
        ·
          by_cases hc17 : ((p2 &&& (2147483647 : Int32)) - ((p2 &&& (2147483647 : Int32)) / (9 : Int32)) * (9 : Int32)) = (4 : Int32)
          ·
            have k50 : ∀ t, Steps p.tables e below (s₁.setTop (mkF m 7 #[.val (.int p1), .val (.int p2), .unset, .unset, .unset, .unset, .unset, .unset] [(.int (4 : Int32))])) t → Steps p.tables e below (s₁.setTop (entryFrame m #[(.int p1), (.int p2)] maxLocals)) t := by
              intro t kt
              refine k1 t ?_
              rw [hc17]
              exact kt
            obtain ⟨v51, _, ⟨T51, L51, k51, n51⟩, -, X51, ⟨Lc51, hQ51, l51, y51, z51⟩, st51⟩ := Jvm.LawKit.callS X0 hx (y := (⟨"com/example/kerb/kerb/txn/SoleLocks", "length", "(I)I"⟩ : MethodName)) hown (mvT hZ (hw _ (List.mem_of_getElem? (i := 2) rfl))) (mvT hZ (hw _ (List.mem_of_getElem? (i := 3) rfl))) (mvT hZ (hw _ (List.mem_of_getElem? (i := 4) rfl))) (mvT hZ (hw _ (List.mem_of_getElem? (i := 5) rfl))) (by decide) (backOf (W := 0) (own_rm1 l Z a0 hw [] p1 h0 n0 Z0) hZ (hw _ (List.mem_of_getElem? (i := 5) rfl)) (hw _ (List.mem_of_getElem? (i := 4) rfl)) (by decide) (by decide)) (g := (mkF m 59 #[.val (.int p1), .val (.int p2), .val (.int (4 : Int32)), .val (.int (((1 : Int32) <<< ((16 : Int32) &&& 31)) - (1 : Int32))), .val (.int (p1 ||| ((286331153 : Int32) &&& (((1 : Int32) <<< ((16 : Int32) &&& 31)) - (1 : Int32))))), .val (.int ((p1 ||| ((286331153 : Int32) &&& (((1 : Int32) <<< ((16 : Int32) &&& 31)) - (1 : Int32)))) &&& (((15 : Int32) <<< ((16 : Int32) &&& 31)) ^^^ (-1 : Int32)))), .unset, .unset] [(.int p1)])) rfl (by rw [hml]; rfl) (argsL := [(.int p1)]) (rest := []) (lenOf own_pd69 rfl) rfl (by show 2 * 0 + _ ≤ _; exact Nat.le_of_eq rfl) (hb hby at_59) (fun _ _ => ⟨rfl, e0, (by decide : 0 + 0 ≤ _), (by decide : 0 + 0 ≤ _)⟩)
            dsimp only [Pt.U, Pt.locs, Pt.cells, Pt.slots] at X51 l51 y51 z51 st51 hQ51
            subst l51 y51 z51
            obtain ⟨rfl, N51q, e51⟩ := hQ51
            have N52 := Fr.app N0 N51q
            obtain ⟨v53, _, ⟨T53, L53, k53, n53⟩, -, X53, ⟨Lc53, hQ53, l53, y53, z53⟩, st53⟩ := Jvm.LawKit.callS X51 hx (y := (⟨"com/example/kerb/kerb/txn/SoleLocksLengthPinLaw", "ref", "(I)I"⟩ : MethodName)) hown (mvT hZ (hw _ (List.mem_of_getElem? (i := 6) rfl))) (mvT hZ (hw _ (List.mem_of_getElem? (i := 7) rfl))) (mvT hZ (hw _ (List.mem_of_getElem? (i := 8) rfl))) (mvT hZ (hw _ (List.mem_of_getElem? (i := 9) rfl))) (by decide) (backOf (W := 1) (own_rm2 l Z a0 hw [] p1 h0 n0 Z0) hZ (hw _ (List.mem_of_getElem? (i := 9) rfl)) (hw _ (List.mem_of_getElem? (i := 8) rfl)) (by decide) (by decide)) (g := (mkF m 63 #[.val (.int p1), .val (.int p2), .val (.int (4 : Int32)), .val (.int (((1 : Int32) <<< ((16 : Int32) &&& 31)) - (1 : Int32))), .val (.int (p1 ||| ((286331153 : Int32) &&& (((1 : Int32) <<< ((16 : Int32) &&& 31)) - (1 : Int32))))), .val (.int ((p1 ||| ((286331153 : Int32) &&& (((1 : Int32) <<< ((16 : Int32) &&& 31)) - (1 : Int32)))) &&& (((15 : Int32) <<< ((16 : Int32) &&& 31)) ^^^ (-1 : Int32)))), .unset, .unset] [(.int p1), (.int (own_f1 p1))])) rfl (by rw [hml]; rfl) (argsL := [(.int p1)]) (rest := [(.int (own_f1 p1))]) (lenOf own_pd69 rfl) rfl (by show 2 * 0 + _ ≤ _; exact Nat.le_of_eq rfl) (hb hby at_63) (fun _ _ => ⟨rfl, e51, (by decide : 0 + 0 ≤ _), (by decide : 0 + 0 ≤ _)⟩)
            dsimp only [Pt.U, Pt.locs, Pt.cells, Pt.slots] at X53 l53 y53 z53 st53 hQ53
            subst l53 y53 z53
            obtain ⟨rfl, N53q, e53⟩ := hQ53
            have N54 := Fr.app N52 N53q
            have k55 : ∀ t, Steps p.tables e below (T53.setTop (mkF m 66 #[.val (.int p1), .val (.int p2), .val (.int (4 : Int32)), .val (.int (((1 : Int32) <<< ((16 : Int32) &&& 31)) - (1 : Int32))), .val (.int (p1 ||| ((286331153 : Int32) &&& (((1 : Int32) <<< ((16 : Int32) &&& 31)) - (1 : Int32))))), .val (.int ((p1 ||| ((286331153 : Int32) &&& (((1 : Int32) <<< ((16 : Int32) &&& 31)) - (1 : Int32)))) &&& (((15 : Int32) <<< ((16 : Int32) &&& 31)) ^^^ (-1 : Int32)))), .unset, .unset] [(.int (own_f2 p1)), (.int (own_f1 p1))])) t → Steps p.tables e below (s₁.setTop (entryFrame m #[(.int p1), (.int p2)] maxLocals)) t := by
              intro t kt
              refine k50 t ?_
              show Steps p.tables e below (s₁.setTop (mkF m 7 #[.val (.int p1), .val (.int p2), .unset, .unset, .unset, .unset, .unset, .unset] [(.int (4 : Int32))])) _
              refine XS.istoreN X0.here hx rfl (hb hby at_7) rfl (l' := #[.val (.int p1), .val (.int p2), .val (.int (4 : Int32)), .unset, .unset, .unset, .unset, .unset]) rfl ?_
              show Steps p.tables e below (s₁.setTop (mkF m 8 #[.val (.int p1), .val (.int p2), .val (.int (4 : Int32)), .unset, .unset, .unset, .unset, .unset] [])) _
              refine XS.iloadN X0.here hx rfl (hb hby at_8) rfl ?_
              show Steps p.tables e below (s₁.setTop (mkF m 9 #[.val (.int p1), .val (.int p2), .val (.int (4 : Int32)), .unset, .unset, .unset, .unset, .unset] [(.int (4 : Int32))])) _
              refine XS.bipush X0.here hx rfl (hb hby at_9) ?_
              show Steps p.tables e below (s₁.setTop (mkF m 11 #[.val (.int p1), .val (.int p2), .val (.int (4 : Int32)), .unset, .unset, .unset, .unset, .unset] [(.int (8 : Int32)), (.int (4 : Int32))])) _
              refine XS.icmpYes X0.here hx rfl (pc0 := 11) (pc' := 18) rfl (hb hby at_11) rfl (feq (by decide : ¬ ((4 : Int32) = (8 : Int32)))).2 (by decide) (by decide) ?_
              show Steps p.tables e below (s₁.setTop (mkF m 18 #[.val (.int p1), .val (.int p2), .val (.int (4 : Int32)), .unset, .unset, .unset, .unset, .unset] [])) _
              refine XS.iconst X0.here hx rfl (hb hby at_18) ?_
              show Steps p.tables e below (s₁.setTop (mkF m 19 #[.val (.int p1), .val (.int p2), .val (.int (4 : Int32)), .unset, .unset, .unset, .unset, .unset] [(.int (1 : Int32))])) _
              refine XS.iconst X0.here hx rfl (hb hby at_19) ?_
              show Steps p.tables e below (s₁.setTop (mkF m 20 #[.val (.int p1), .val (.int p2), .val (.int (4 : Int32)), .unset, .unset, .unset, .unset, .unset] [(.int (4 : Int32)), (.int (1 : Int32))])) _
              refine XS.iloadN X0.here hx rfl (hb hby at_20) rfl ?_
              show Steps p.tables e below (s₁.setTop (mkF m 21 #[.val (.int p1), .val (.int p2), .val (.int (4 : Int32)), .unset, .unset, .unset, .unset, .unset] [(.int (4 : Int32)), (.int (4 : Int32)), (.int (1 : Int32))])) _
              refine XS.imul X0.here hx rfl (hb hby at_21) rfl ?_
              show Steps p.tables e below (s₁.setTop (mkF m 22 #[.val (.int p1), .val (.int p2), .val (.int (4 : Int32)), .unset, .unset, .unset, .unset, .unset] [(.int (16 : Int32)), (.int (1 : Int32))])) _
              refine XS.ishl X0.here hx rfl (hb hby at_22) rfl ?_
              show Steps p.tables e below (s₁.setTop (mkF m 23 #[.val (.int p1), .val (.int p2), .val (.int (4 : Int32)), .unset, .unset, .unset, .unset, .unset] [(.int ((1 : Int32) <<< ((16 : Int32) &&& 31)))])) _
              refine XS.iconst X0.here hx rfl (hb hby at_23) ?_
              show Steps p.tables e below (s₁.setTop (mkF m 24 #[.val (.int p1), .val (.int p2), .val (.int (4 : Int32)), .unset, .unset, .unset, .unset, .unset] [(.int (1 : Int32)), (.int ((1 : Int32) <<< ((16 : Int32) &&& 31)))])) _
              refine XS.isub X0.here hx rfl (hb hby at_24) rfl ?_
              show Steps p.tables e below (s₁.setTop (mkF m 25 #[.val (.int p1), .val (.int p2), .val (.int (4 : Int32)), .unset, .unset, .unset, .unset, .unset] [(.int (((1 : Int32) <<< ((16 : Int32) &&& 31)) - (1 : Int32)))])) _
              refine XS.istoreN X0.here hx rfl (hb hby at_25) rfl (l' := #[.val (.int p1), .val (.int p2), .val (.int (4 : Int32)), .val (.int (((1 : Int32) <<< ((16 : Int32) &&& 31)) - (1 : Int32))), .unset, .unset, .unset, .unset]) rfl ?_
              show Steps p.tables e below (s₁.setTop (mkF m 26 #[.val (.int p1), .val (.int p2), .val (.int (4 : Int32)), .val (.int (((1 : Int32) <<< ((16 : Int32) &&& 31)) - (1 : Int32))), .unset, .unset, .unset, .unset] [])) _
              refine XS.iloadN X0.here hx rfl (hb hby at_26) rfl ?_
              show Steps p.tables e below (s₁.setTop (mkF m 27 #[.val (.int p1), .val (.int p2), .val (.int (4 : Int32)), .val (.int (((1 : Int32) <<< ((16 : Int32) &&& 31)) - (1 : Int32))), .unset, .unset, .unset, .unset] [(.int p1)])) _
              refine X0.ldcInt hx hown (mvT hZ (hw _ (List.mem_of_getElem? (i := 1) rfl))) (g := (mkF m 27 #[.val (.int p1), .val (.int p2), .val (.int (4 : Int32)), .val (.int (((1 : Int32) <<< ((16 : Int32) &&& 31)) - (1 : Int32))), .unset, .unset, .unset, .unset] [(.int p1)])) rfl (hb hby at_27) _ ?_
              show Steps p.tables e below (s₁.setTop (mkF m 29 #[.val (.int p1), .val (.int p2), .val (.int (4 : Int32)), .val (.int (((1 : Int32) <<< ((16 : Int32) &&& 31)) - (1 : Int32))), .unset, .unset, .unset, .unset] [(.int (286331153 : Int32)), (.int p1)])) _
              refine XS.iloadN X0.here hx rfl (hb hby at_29) rfl ?_
              show Steps p.tables e below (s₁.setTop (mkF m 30 #[.val (.int p1), .val (.int p2), .val (.int (4 : Int32)), .val (.int (((1 : Int32) <<< ((16 : Int32) &&& 31)) - (1 : Int32))), .unset, .unset, .unset, .unset] [(.int (((1 : Int32) <<< ((16 : Int32) &&& 31)) - (1 : Int32))), (.int (286331153 : Int32)), (.int p1)])) _
              refine XS.iand X0.here hx rfl (hb hby at_30) rfl ?_
              show Steps p.tables e below (s₁.setTop (mkF m 31 #[.val (.int p1), .val (.int p2), .val (.int (4 : Int32)), .val (.int (((1 : Int32) <<< ((16 : Int32) &&& 31)) - (1 : Int32))), .unset, .unset, .unset, .unset] [(.int ((286331153 : Int32) &&& (((1 : Int32) <<< ((16 : Int32) &&& 31)) - (1 : Int32)))), (.int p1)])) _
              refine XS.ior X0.here hx rfl (hb hby at_31) rfl ?_
              show Steps p.tables e below (s₁.setTop (mkF m 32 #[.val (.int p1), .val (.int p2), .val (.int (4 : Int32)), .val (.int (((1 : Int32) <<< ((16 : Int32) &&& 31)) - (1 : Int32))), .unset, .unset, .unset, .unset] [(.int (p1 ||| ((286331153 : Int32) &&& (((1 : Int32) <<< ((16 : Int32) &&& 31)) - (1 : Int32)))))])) _
              refine XS.istore X0.here hx rfl (hb hby at_32) rfl (l' := #[.val (.int p1), .val (.int p2), .val (.int (4 : Int32)), .val (.int (((1 : Int32) <<< ((16 : Int32) &&& 31)) - (1 : Int32))), .val (.int (p1 ||| ((286331153 : Int32) &&& (((1 : Int32) <<< ((16 : Int32) &&& 31)) - (1 : Int32))))), .unset, .unset, .unset]) rfl ?_
              show Steps p.tables e below (s₁.setTop (mkF m 34 #[.val (.int p1), .val (.int p2), .val (.int (4 : Int32)), .val (.int (((1 : Int32) <<< ((16 : Int32) &&& 31)) - (1 : Int32))), .val (.int (p1 ||| ((286331153 : Int32) &&& (((1 : Int32) <<< ((16 : Int32) &&& 31)) - (1 : Int32))))), .unset, .unset, .unset] [])) _
              refine XS.iloadN X0.here hx rfl (hb hby at_34) rfl ?_
              show Steps p.tables e below (s₁.setTop (mkF m 35 #[.val (.int p1), .val (.int p2), .val (.int (4 : Int32)), .val (.int (((1 : Int32) <<< ((16 : Int32) &&& 31)) - (1 : Int32))), .val (.int (p1 ||| ((286331153 : Int32) &&& (((1 : Int32) <<< ((16 : Int32) &&& 31)) - (1 : Int32))))), .unset, .unset, .unset] [(.int (4 : Int32))])) _
              refine XS.bipush X0.here hx rfl (hb hby at_35) ?_
              show Steps p.tables e below (s₁.setTop (mkF m 37 #[.val (.int p1), .val (.int p2), .val (.int (4 : Int32)), .val (.int (((1 : Int32) <<< ((16 : Int32) &&& 31)) - (1 : Int32))), .val (.int (p1 ||| ((286331153 : Int32) &&& (((1 : Int32) <<< ((16 : Int32) &&& 31)) - (1 : Int32))))), .unset, .unset, .unset] [(.int (8 : Int32)), (.int (4 : Int32))])) _
              refine XS.icmpYes X0.here hx rfl (pc0 := 37) (pc' := 45) rfl (hb hby at_37) rfl (feq (by decide : ¬ ((4 : Int32) = (8 : Int32)))).2 (by decide) (by decide) ?_
              show Steps p.tables e below (s₁.setTop (mkF m 45 #[.val (.int p1), .val (.int p2), .val (.int (4 : Int32)), .val (.int (((1 : Int32) <<< ((16 : Int32) &&& 31)) - (1 : Int32))), .val (.int (p1 ||| ((286331153 : Int32) &&& (((1 : Int32) <<< ((16 : Int32) &&& 31)) - (1 : Int32))))), .unset, .unset, .unset] [])) _
              refine XS.iload X0.here hx rfl (hb hby at_45) rfl ?_
              show Steps p.tables e below (s₁.setTop (mkF m 47 #[.val (.int p1), .val (.int p2), .val (.int (4 : Int32)), .val (.int (((1 : Int32) <<< ((16 : Int32) &&& 31)) - (1 : Int32))), .val (.int (p1 ||| ((286331153 : Int32) &&& (((1 : Int32) <<< ((16 : Int32) &&& 31)) - (1 : Int32))))), .unset, .unset, .unset] [(.int (p1 ||| ((286331153 : Int32) &&& (((1 : Int32) <<< ((16 : Int32) &&& 31)) - (1 : Int32)))))])) _
              refine XS.bipush X0.here hx rfl (hb hby at_47) ?_
              show Steps p.tables e below (s₁.setTop (mkF m 49 #[.val (.int p1), .val (.int p2), .val (.int (4 : Int32)), .val (.int (((1 : Int32) <<< ((16 : Int32) &&& 31)) - (1 : Int32))), .val (.int (p1 ||| ((286331153 : Int32) &&& (((1 : Int32) <<< ((16 : Int32) &&& 31)) - (1 : Int32))))), .unset, .unset, .unset] [(.int (15 : Int32)), (.int (p1 ||| ((286331153 : Int32) &&& (((1 : Int32) <<< ((16 : Int32) &&& 31)) - (1 : Int32)))))])) _
              refine XS.iconst X0.here hx rfl (hb hby at_49) ?_
              show Steps p.tables e below (s₁.setTop (mkF m 50 #[.val (.int p1), .val (.int p2), .val (.int (4 : Int32)), .val (.int (((1 : Int32) <<< ((16 : Int32) &&& 31)) - (1 : Int32))), .val (.int (p1 ||| ((286331153 : Int32) &&& (((1 : Int32) <<< ((16 : Int32) &&& 31)) - (1 : Int32))))), .unset, .unset, .unset] [(.int (4 : Int32)), (.int (15 : Int32)), (.int (p1 ||| ((286331153 : Int32) &&& (((1 : Int32) <<< ((16 : Int32) &&& 31)) - (1 : Int32)))))])) _
              refine XS.iloadN X0.here hx rfl (hb hby at_50) rfl ?_
              show Steps p.tables e below (s₁.setTop (mkF m 51 #[.val (.int p1), .val (.int p2), .val (.int (4 : Int32)), .val (.int (((1 : Int32) <<< ((16 : Int32) &&& 31)) - (1 : Int32))), .val (.int (p1 ||| ((286331153 : Int32) &&& (((1 : Int32) <<< ((16 : Int32) &&& 31)) - (1 : Int32))))), .unset, .unset, .unset] [(.int (4 : Int32)), (.int (4 : Int32)), (.int (15 : Int32)), (.int (p1 ||| ((286331153 : Int32) &&& (((1 : Int32) <<< ((16 : Int32) &&& 31)) - (1 : Int32)))))])) _
              refine XS.imul X0.here hx rfl (hb hby at_51) rfl ?_
              show Steps p.tables e below (s₁.setTop (mkF m 52 #[.val (.int p1), .val (.int p2), .val (.int (4 : Int32)), .val (.int (((1 : Int32) <<< ((16 : Int32) &&& 31)) - (1 : Int32))), .val (.int (p1 ||| ((286331153 : Int32) &&& (((1 : Int32) <<< ((16 : Int32) &&& 31)) - (1 : Int32))))), .unset, .unset, .unset] [(.int (16 : Int32)), (.int (15 : Int32)), (.int (p1 ||| ((286331153 : Int32) &&& (((1 : Int32) <<< ((16 : Int32) &&& 31)) - (1 : Int32)))))])) _
              refine XS.ishl X0.here hx rfl (hb hby at_52) rfl ?_
              show Steps p.tables e below (s₁.setTop (mkF m 53 #[.val (.int p1), .val (.int p2), .val (.int (4 : Int32)), .val (.int (((1 : Int32) <<< ((16 : Int32) &&& 31)) - (1 : Int32))), .val (.int (p1 ||| ((286331153 : Int32) &&& (((1 : Int32) <<< ((16 : Int32) &&& 31)) - (1 : Int32))))), .unset, .unset, .unset] [(.int ((15 : Int32) <<< ((16 : Int32) &&& 31))), (.int (p1 ||| ((286331153 : Int32) &&& (((1 : Int32) <<< ((16 : Int32) &&& 31)) - (1 : Int32)))))])) _
              refine XS.iconst X0.here hx rfl (hb hby at_53) ?_
              show Steps p.tables e below (s₁.setTop (mkF m 54 #[.val (.int p1), .val (.int p2), .val (.int (4 : Int32)), .val (.int (((1 : Int32) <<< ((16 : Int32) &&& 31)) - (1 : Int32))), .val (.int (p1 ||| ((286331153 : Int32) &&& (((1 : Int32) <<< ((16 : Int32) &&& 31)) - (1 : Int32))))), .unset, .unset, .unset] [(.int (-1 : Int32)), (.int ((15 : Int32) <<< ((16 : Int32) &&& 31))), (.int (p1 ||| ((286331153 : Int32) &&& (((1 : Int32) <<< ((16 : Int32) &&& 31)) - (1 : Int32)))))])) _
              refine XS.ixor X0.here hx rfl (hb hby at_54) rfl ?_
              show Steps p.tables e below (s₁.setTop (mkF m 55 #[.val (.int p1), .val (.int p2), .val (.int (4 : Int32)), .val (.int (((1 : Int32) <<< ((16 : Int32) &&& 31)) - (1 : Int32))), .val (.int (p1 ||| ((286331153 : Int32) &&& (((1 : Int32) <<< ((16 : Int32) &&& 31)) - (1 : Int32))))), .unset, .unset, .unset] [(.int (((15 : Int32) <<< ((16 : Int32) &&& 31)) ^^^ (-1 : Int32))), (.int (p1 ||| ((286331153 : Int32) &&& (((1 : Int32) <<< ((16 : Int32) &&& 31)) - (1 : Int32)))))])) _
              refine XS.iand X0.here hx rfl (hb hby at_55) rfl ?_
              show Steps p.tables e below (s₁.setTop (mkF m 56 #[.val (.int p1), .val (.int p2), .val (.int (4 : Int32)), .val (.int (((1 : Int32) <<< ((16 : Int32) &&& 31)) - (1 : Int32))), .val (.int (p1 ||| ((286331153 : Int32) &&& (((1 : Int32) <<< ((16 : Int32) &&& 31)) - (1 : Int32))))), .unset, .unset, .unset] [(.int ((p1 ||| ((286331153 : Int32) &&& (((1 : Int32) <<< ((16 : Int32) &&& 31)) - (1 : Int32)))) &&& (((15 : Int32) <<< ((16 : Int32) &&& 31)) ^^^ (-1 : Int32))))])) _
              refine XS.istore X0.here hx rfl (hb hby at_56) rfl (l' := #[.val (.int p1), .val (.int p2), .val (.int (4 : Int32)), .val (.int (((1 : Int32) <<< ((16 : Int32) &&& 31)) - (1 : Int32))), .val (.int (p1 ||| ((286331153 : Int32) &&& (((1 : Int32) <<< ((16 : Int32) &&& 31)) - (1 : Int32))))), .val (.int ((p1 ||| ((286331153 : Int32) &&& (((1 : Int32) <<< ((16 : Int32) &&& 31)) - (1 : Int32)))) &&& (((15 : Int32) <<< ((16 : Int32) &&& 31)) ^^^ (-1 : Int32)))), .unset, .unset]) rfl ?_
              show Steps p.tables e below (s₁.setTop (mkF m 58 #[.val (.int p1), .val (.int p2), .val (.int (4 : Int32)), .val (.int (((1 : Int32) <<< ((16 : Int32) &&& 31)) - (1 : Int32))), .val (.int (p1 ||| ((286331153 : Int32) &&& (((1 : Int32) <<< ((16 : Int32) &&& 31)) - (1 : Int32))))), .val (.int ((p1 ||| ((286331153 : Int32) &&& (((1 : Int32) <<< ((16 : Int32) &&& 31)) - (1 : Int32)))) &&& (((15 : Int32) <<< ((16 : Int32) &&& 31)) ^^^ (-1 : Int32)))), .unset, .unset] [])) _
              refine XS.iloadN X0.here hx rfl (hb hby at_58) rfl ?_
              show Steps p.tables e below (s₁.setTop (mkF m 59 #[.val (.int p1), .val (.int p2), .val (.int (4 : Int32)), .val (.int (((1 : Int32) <<< ((16 : Int32) &&& 31)) - (1 : Int32))), .val (.int (p1 ||| ((286331153 : Int32) &&& (((1 : Int32) <<< ((16 : Int32) &&& 31)) - (1 : Int32))))), .val (.int ((p1 ||| ((286331153 : Int32) &&& (((1 : Int32) <<< ((16 : Int32) &&& 31)) - (1 : Int32)))) &&& (((15 : Int32) <<< ((16 : Int32) &&& 31)) ^^^ (-1 : Int32)))), .unset, .unset] [(.int p1)])) _
              refine st51 _ ?_
              show Steps p.tables e below (T51.setTop (mkF m 62 #[.val (.int p1), .val (.int p2), .val (.int (4 : Int32)), .val (.int (((1 : Int32) <<< ((16 : Int32) &&& 31)) - (1 : Int32))), .val (.int (p1 ||| ((286331153 : Int32) &&& (((1 : Int32) <<< ((16 : Int32) &&& 31)) - (1 : Int32))))), .val (.int ((p1 ||| ((286331153 : Int32) &&& (((1 : Int32) <<< ((16 : Int32) &&& 31)) - (1 : Int32)))) &&& (((15 : Int32) <<< ((16 : Int32) &&& 31)) ^^^ (-1 : Int32)))), .unset, .unset] [(.int (own_f1 p1))])) _
              refine XS.iloadN X51.here hx rfl (hb hby at_62) rfl ?_
              show Steps p.tables e below (T51.setTop (mkF m 63 #[.val (.int p1), .val (.int p2), .val (.int (4 : Int32)), .val (.int (((1 : Int32) <<< ((16 : Int32) &&& 31)) - (1 : Int32))), .val (.int (p1 ||| ((286331153 : Int32) &&& (((1 : Int32) <<< ((16 : Int32) &&& 31)) - (1 : Int32))))), .val (.int ((p1 ||| ((286331153 : Int32) &&& (((1 : Int32) <<< ((16 : Int32) &&& 31)) - (1 : Int32)))) &&& (((15 : Int32) <<< ((16 : Int32) &&& 31)) ^^^ (-1 : Int32)))), .unset, .unset] [(.int p1), (.int (own_f1 p1))])) _
              refine st53 _ ?_
              exact kt
            by_cases hc18 : (own_f1 p1) = (own_f2 p1)
            ·
              obtain ⟨v56, _, ⟨T56, L56, k56, n56⟩, -, X56, ⟨Lc56, hQ56, l56, y56, z56⟩, st56⟩ := Jvm.LawKit.callS X53 hx (y := (⟨"com/example/kerb/kerb/txn/SoleLocks", "length", "(I)I"⟩ : MethodName)) hown (mvT hZ (hw _ (List.mem_of_getElem? (i := 2) rfl))) (mvT hZ (hw _ (List.mem_of_getElem? (i := 3) rfl))) (mvT hZ (hw _ (List.mem_of_getElem? (i := 4) rfl))) (mvT hZ (hw _ (List.mem_of_getElem? (i := 5) rfl))) (by decide) (backOf (W := 0) (own_rm1 l Z a0 hw [] ((p1 ||| ((286331153 : Int32) &&& (((1 : Int32) <<< ((16 : Int32) &&& 31)) - (1 : Int32)))) &&& (((15 : Int32) <<< ((16 : Int32) &&& 31)) ^^^ (-1 : Int32))) h0 n0 Z0) hZ (hw _ (List.mem_of_getElem? (i := 5) rfl)) (hw _ (List.mem_of_getElem? (i := 4) rfl)) (by decide) (by decide)) (g := (mkF m 78 #[.val (.int p1), .val (.int p2), .val (.int (4 : Int32)), .val (.int (((1 : Int32) <<< ((16 : Int32) &&& 31)) - (1 : Int32))), .val (.int (p1 ||| ((286331153 : Int32) &&& (((1 : Int32) <<< ((16 : Int32) &&& 31)) - (1 : Int32))))), .val (.int ((p1 ||| ((286331153 : Int32) &&& (((1 : Int32) <<< ((16 : Int32) &&& 31)) - (1 : Int32)))) &&& (((15 : Int32) <<< ((16 : Int32) &&& 31)) ^^^ (-1 : Int32)))), .val (.int (1 : Int32)), .unset] [(.int ((p1 ||| ((286331153 : Int32) &&& (((1 : Int32) <<< ((16 : Int32) &&& 31)) - (1 : Int32)))) &&& (((15 : Int32) <<< ((16 : Int32) &&& 31)) ^^^ (-1 : Int32))))])) rfl (by rw [hml]; rfl) (argsL := [(.int ((p1 ||| ((286331153 : Int32) &&& (((1 : Int32) <<< ((16 : Int32) &&& 31)) - (1 : Int32)))) &&& (((15 : Int32) <<< ((16 : Int32) &&& 31)) ^^^ (-1 : Int32))))]) (rest := []) (lenOf own_pd69 rfl) rfl (by show 2 * 0 + _ ≤ _; exact Nat.le_of_eq rfl) (hb hby at_78) (fun _ _ => ⟨rfl, e53, (by decide : 0 + 0 ≤ _), (by decide : 0 + 0 ≤ _)⟩)
              dsimp only [Pt.U, Pt.locs, Pt.cells, Pt.slots] at X56 l56 y56 z56 st56 hQ56
              subst l56 y56 z56
              obtain ⟨rfl, N56q, e56⟩ := hQ56
              have N57 := Fr.app N54 N56q
              have k58 : ∀ t, Steps p.tables e below (T56.setTop (mkF m 82 #[.val (.int p1), .val (.int p2), .val (.int (4 : Int32)), .val (.int (((1 : Int32) <<< ((16 : Int32) &&& 31)) - (1 : Int32))), .val (.int (p1 ||| ((286331153 : Int32) &&& (((1 : Int32) <<< ((16 : Int32) &&& 31)) - (1 : Int32))))), .val (.int ((p1 ||| ((286331153 : Int32) &&& (((1 : Int32) <<< ((16 : Int32) &&& 31)) - (1 : Int32)))) &&& (((15 : Int32) <<< ((16 : Int32) &&& 31)) ^^^ (-1 : Int32)))), .val (.int (1 : Int32)), .unset] [(.int (4 : Int32)), (.int (own_f1 ((p1 ||| ((286331153 : Int32) &&& (((1 : Int32) <<< ((16 : Int32) &&& 31)) - (1 : Int32)))) &&& (((15 : Int32) <<< ((16 : Int32) &&& 31)) ^^^ (-1 : Int32)))))])) t → Steps p.tables e below (s₁.setTop (entryFrame m #[(.int p1), (.int p2)] maxLocals)) t := by
                intro t kt
                refine k55 t ?_
                show Steps p.tables e below (T53.setTop (mkF m 66 #[.val (.int p1), .val (.int p2), .val (.int (4 : Int32)), .val (.int (((1 : Int32) <<< ((16 : Int32) &&& 31)) - (1 : Int32))), .val (.int (p1 ||| ((286331153 : Int32) &&& (((1 : Int32) <<< ((16 : Int32) &&& 31)) - (1 : Int32))))), .val (.int ((p1 ||| ((286331153 : Int32) &&& (((1 : Int32) <<< ((16 : Int32) &&& 31)) - (1 : Int32)))) &&& (((15 : Int32) <<< ((16 : Int32) &&& 31)) ^^^ (-1 : Int32)))), .unset, .unset] [(.int (own_f2 p1)), (.int (own_f1 p1))])) _
                refine XS.icmpNo X53.here hx rfl (hb hby at_66) rfl (teq hc18).2 ?_
                show Steps p.tables e below (T53.setTop (mkF m 69 #[.val (.int p1), .val (.int p2), .val (.int (4 : Int32)), .val (.int (((1 : Int32) <<< ((16 : Int32) &&& 31)) - (1 : Int32))), .val (.int (p1 ||| ((286331153 : Int32) &&& (((1 : Int32) <<< ((16 : Int32) &&& 31)) - (1 : Int32))))), .val (.int ((p1 ||| ((286331153 : Int32) &&& (((1 : Int32) <<< ((16 : Int32) &&& 31)) - (1 : Int32)))) &&& (((15 : Int32) <<< ((16 : Int32) &&& 31)) ^^^ (-1 : Int32)))), .unset, .unset] [])) _
                refine XS.iconst X53.here hx rfl (hb hby at_69) ?_
                show Steps p.tables e below (T53.setTop (mkF m 70 #[.val (.int p1), .val (.int p2), .val (.int (4 : Int32)), .val (.int (((1 : Int32) <<< ((16 : Int32) &&& 31)) - (1 : Int32))), .val (.int (p1 ||| ((286331153 : Int32) &&& (((1 : Int32) <<< ((16 : Int32) &&& 31)) - (1 : Int32))))), .val (.int ((p1 ||| ((286331153 : Int32) &&& (((1 : Int32) <<< ((16 : Int32) &&& 31)) - (1 : Int32)))) &&& (((15 : Int32) <<< ((16 : Int32) &&& 31)) ^^^ (-1 : Int32)))), .unset, .unset] [(.int (1 : Int32))])) _
                refine XS.goto X53.here hx rfl (pc0 := 70) (pc' := 74) rfl (hb hby at_70) (by decide) (by decide) ?_
                show Steps p.tables e below (T53.setTop (mkF m 74 #[.val (.int p1), .val (.int p2), .val (.int (4 : Int32)), .val (.int (((1 : Int32) <<< ((16 : Int32) &&& 31)) - (1 : Int32))), .val (.int (p1 ||| ((286331153 : Int32) &&& (((1 : Int32) <<< ((16 : Int32) &&& 31)) - (1 : Int32))))), .val (.int ((p1 ||| ((286331153 : Int32) &&& (((1 : Int32) <<< ((16 : Int32) &&& 31)) - (1 : Int32)))) &&& (((15 : Int32) <<< ((16 : Int32) &&& 31)) ^^^ (-1 : Int32)))), .unset, .unset] [(.int (1 : Int32))])) _
                refine XS.istore X53.here hx rfl (hb hby at_74) rfl (l' := #[.val (.int p1), .val (.int p2), .val (.int (4 : Int32)), .val (.int (((1 : Int32) <<< ((16 : Int32) &&& 31)) - (1 : Int32))), .val (.int (p1 ||| ((286331153 : Int32) &&& (((1 : Int32) <<< ((16 : Int32) &&& 31)) - (1 : Int32))))), .val (.int ((p1 ||| ((286331153 : Int32) &&& (((1 : Int32) <<< ((16 : Int32) &&& 31)) - (1 : Int32)))) &&& (((15 : Int32) <<< ((16 : Int32) &&& 31)) ^^^ (-1 : Int32)))), .val (.int (1 : Int32)), .unset]) rfl ?_
                show Steps p.tables e below (T53.setTop (mkF m 76 #[.val (.int p1), .val (.int p2), .val (.int (4 : Int32)), .val (.int (((1 : Int32) <<< ((16 : Int32) &&& 31)) - (1 : Int32))), .val (.int (p1 ||| ((286331153 : Int32) &&& (((1 : Int32) <<< ((16 : Int32) &&& 31)) - (1 : Int32))))), .val (.int ((p1 ||| ((286331153 : Int32) &&& (((1 : Int32) <<< ((16 : Int32) &&& 31)) - (1 : Int32)))) &&& (((15 : Int32) <<< ((16 : Int32) &&& 31)) ^^^ (-1 : Int32)))), .val (.int (1 : Int32)), .unset] [])) _
                refine XS.iload X53.here hx rfl (hb hby at_76) rfl ?_
                show Steps p.tables e below (T53.setTop (mkF m 78 #[.val (.int p1), .val (.int p2), .val (.int (4 : Int32)), .val (.int (((1 : Int32) <<< ((16 : Int32) &&& 31)) - (1 : Int32))), .val (.int (p1 ||| ((286331153 : Int32) &&& (((1 : Int32) <<< ((16 : Int32) &&& 31)) - (1 : Int32))))), .val (.int ((p1 ||| ((286331153 : Int32) &&& (((1 : Int32) <<< ((16 : Int32) &&& 31)) - (1 : Int32)))) &&& (((15 : Int32) <<< ((16 : Int32) &&& 31)) ^^^ (-1 : Int32)))), .val (.int (1 : Int32)), .unset] [(.int ((p1 ||| ((286331153 : Int32) &&& (((1 : Int32) <<< ((16 : Int32) &&& 31)) - (1 : Int32)))) &&& (((15 : Int32) <<< ((16 : Int32) &&& 31)) ^^^ (-1 : Int32))))])) _
                refine st56 _ ?_
                show Steps p.tables e below (T56.setTop (mkF m 81 #[.val (.int p1), .val (.int p2), .val (.int (4 : Int32)), .val (.int (((1 : Int32) <<< ((16 : Int32) &&& 31)) - (1 : Int32))), .val (.int (p1 ||| ((286331153 : Int32) &&& (((1 : Int32) <<< ((16 : Int32) &&& 31)) - (1 : Int32))))), .val (.int ((p1 ||| ((286331153 : Int32) &&& (((1 : Int32) <<< ((16 : Int32) &&& 31)) - (1 : Int32)))) &&& (((15 : Int32) <<< ((16 : Int32) &&& 31)) ^^^ (-1 : Int32)))), .val (.int (1 : Int32)), .unset] [(.int (own_f1 ((p1 ||| ((286331153 : Int32) &&& (((1 : Int32) <<< ((16 : Int32) &&& 31)) - (1 : Int32)))) &&& (((15 : Int32) <<< ((16 : Int32) &&& 31)) ^^^ (-1 : Int32)))))])) _
                refine XS.iloadN X56.here hx rfl (hb hby at_81) rfl ?_
                exact kt
              by_cases hc19 : (own_f1 ((p1 ||| ((286331153 : Int32) &&& (((1 : Int32) <<< ((16 : Int32) &&& 31)) - (1 : Int32)))) &&& (((15 : Int32) <<< ((16 : Int32) &&& 31)) ^^^ (-1 : Int32)))) = (4 : Int32)
              ·
                obtain ⟨fs, hr, hrun, hended, hW, hsame⟩ := X56.leave (v := some (.int (1 : Int32))) (fun h => by rw [Bd.returns] at h; cases h)
                refine ⟨_, _, k58 _ ?_, hrun, hended, _, _, rfl, ?_, ⟨_, rfl⟩, hW, hsame.mono (by decide) (by decide)⟩
                · show Steps p.tables e below (T56.setTop (mkF m 82 #[.val (.int p1), .val (.int p2), .val (.int (4 : Int32)), .val (.int (((1 : Int32) <<< ((16 : Int32) &&& 31)) - (1 : Int32))), .val (.int (p1 ||| ((286331153 : Int32) &&& (((1 : Int32) <<< ((16 : Int32) &&& 31)) - (1 : Int32))))), .val (.int ((p1 ||| ((286331153 : Int32) &&& (((1 : Int32) <<< ((16 : Int32) &&& 31)) - (1 : Int32)))) &&& (((15 : Int32) <<< ((16 : Int32) &&& 31)) ^^^ (-1 : Int32)))), .val (.int (1 : Int32)), .unset] [(.int (4 : Int32)), (.int (own_f1 ((p1 ||| ((286331153 : Int32) &&& (((1 : Int32) <<< ((16 : Int32) &&& 31)) - (1 : Int32)))) &&& (((15 : Int32) <<< ((16 : Int32) &&& 31)) ^^^ (-1 : Int32)))))])) _
                  refine XS.icmpNo X56.here hx rfl (hb hby at_82) rfl (teq hc19).2 ?_
                  show Steps p.tables e below (T56.setTop (mkF m 85 #[.val (.int p1), .val (.int p2), .val (.int (4 : Int32)), .val (.int (((1 : Int32) <<< ((16 : Int32) &&& 31)) - (1 : Int32))), .val (.int (p1 ||| ((286331153 : Int32) &&& (((1 : Int32) <<< ((16 : Int32) &&& 31)) - (1 : Int32))))), .val (.int ((p1 ||| ((286331153 : Int32) &&& (((1 : Int32) <<< ((16 : Int32) &&& 31)) - (1 : Int32)))) &&& (((15 : Int32) <<< ((16 : Int32) &&& 31)) ^^^ (-1 : Int32)))), .val (.int (1 : Int32)), .unset] [])) _
                  refine XS.iconst X56.here hx rfl (hb hby at_85) ?_
                  show Steps p.tables e below (T56.setTop (mkF m 86 #[.val (.int p1), .val (.int p2), .val (.int (4 : Int32)), .val (.int (((1 : Int32) <<< ((16 : Int32) &&& 31)) - (1 : Int32))), .val (.int (p1 ||| ((286331153 : Int32) &&& (((1 : Int32) <<< ((16 : Int32) &&& 31)) - (1 : Int32))))), .val (.int ((p1 ||| ((286331153 : Int32) &&& (((1 : Int32) <<< ((16 : Int32) &&& 31)) - (1 : Int32)))) &&& (((15 : Int32) <<< ((16 : Int32) &&& 31)) ^^^ (-1 : Int32)))), .val (.int (1 : Int32)), .unset] [(.int (1 : Int32))])) _
                  refine XS.goto X56.here hx rfl (pc0 := 86) (pc' := 90) rfl (hb hby at_86) (by decide) (by decide) ?_
                  show Steps p.tables e below (T56.setTop (mkF m 90 #[.val (.int p1), .val (.int p2), .val (.int (4 : Int32)), .val (.int (((1 : Int32) <<< ((16 : Int32) &&& 31)) - (1 : Int32))), .val (.int (p1 ||| ((286331153 : Int32) &&& (((1 : Int32) <<< ((16 : Int32) &&& 31)) - (1 : Int32))))), .val (.int ((p1 ||| ((286331153 : Int32) &&& (((1 : Int32) <<< ((16 : Int32) &&& 31)) - (1 : Int32)))) &&& (((15 : Int32) <<< ((16 : Int32) &&& 31)) ^^^ (-1 : Int32)))), .val (.int (1 : Int32)), .unset] [(.int (1 : Int32))])) _
                  refine XS.istore X56.here hx rfl (hb hby at_90) rfl (l' := #[.val (.int p1), .val (.int p2), .val (.int (4 : Int32)), .val (.int (((1 : Int32) <<< ((16 : Int32) &&& 31)) - (1 : Int32))), .val (.int (p1 ||| ((286331153 : Int32) &&& (((1 : Int32) <<< ((16 : Int32) &&& 31)) - (1 : Int32))))), .val (.int ((p1 ||| ((286331153 : Int32) &&& (((1 : Int32) <<< ((16 : Int32) &&& 31)) - (1 : Int32)))) &&& (((15 : Int32) <<< ((16 : Int32) &&& 31)) ^^^ (-1 : Int32)))), .val (.int (1 : Int32)), .val (.int (1 : Int32))]) rfl ?_
                  show Steps p.tables e below (T56.setTop (mkF m 92 #[.val (.int p1), .val (.int p2), .val (.int (4 : Int32)), .val (.int (((1 : Int32) <<< ((16 : Int32) &&& 31)) - (1 : Int32))), .val (.int (p1 ||| ((286331153 : Int32) &&& (((1 : Int32) <<< ((16 : Int32) &&& 31)) - (1 : Int32))))), .val (.int ((p1 ||| ((286331153 : Int32) &&& (((1 : Int32) <<< ((16 : Int32) &&& 31)) - (1 : Int32)))) &&& (((15 : Int32) <<< ((16 : Int32) &&& 31)) ^^^ (-1 : Int32)))), .val (.int (1 : Int32)), .val (.int (1 : Int32))] [])) _
                  refine XS.iload X56.here hx rfl (hb hby at_92) rfl ?_
                  show Steps p.tables e below (T56.setTop (mkF m 94 #[.val (.int p1), .val (.int p2), .val (.int (4 : Int32)), .val (.int (((1 : Int32) <<< ((16 : Int32) &&& 31)) - (1 : Int32))), .val (.int (p1 ||| ((286331153 : Int32) &&& (((1 : Int32) <<< ((16 : Int32) &&& 31)) - (1 : Int32))))), .val (.int ((p1 ||| ((286331153 : Int32) &&& (((1 : Int32) <<< ((16 : Int32) &&& 31)) - (1 : Int32)))) &&& (((15 : Int32) <<< ((16 : Int32) &&& 31)) ^^^ (-1 : Int32)))), .val (.int (1 : Int32)), .val (.int (1 : Int32))] [(.int (1 : Int32))])) _
                  refine XS.ifNo X56.here hx rfl (hb hby at_94) rfl ((if0 _ _).trans (feq (by decide : ¬ ((1 : Int32) = (0 : Int32)))).1) ?_
                  show Steps p.tables e below (T56.setTop (mkF m 97 #[.val (.int p1), .val (.int p2), .val (.int (4 : Int32)), .val (.int (((1 : Int32) <<< ((16 : Int32) &&& 31)) - (1 : Int32))), .val (.int (p1 ||| ((286331153 : Int32) &&& (((1 : Int32) <<< ((16 : Int32) &&& 31)) - (1 : Int32))))), .val (.int ((p1 ||| ((286331153 : Int32) &&& (((1 : Int32) <<< ((16 : Int32) &&& 31)) - (1 : Int32)))) &&& (((15 : Int32) <<< ((16 : Int32) &&& 31)) ^^^ (-1 : Int32)))), .val (.int (1 : Int32)), .val (.int (1 : Int32))] [])) _
                  refine XS.iload X56.here hx rfl (hb hby at_97) rfl ?_
                  show Steps p.tables e below (T56.setTop (mkF m 99 #[.val (.int p1), .val (.int p2), .val (.int (4 : Int32)), .val (.int (((1 : Int32) <<< ((16 : Int32) &&& 31)) - (1 : Int32))), .val (.int (p1 ||| ((286331153 : Int32) &&& (((1 : Int32) <<< ((16 : Int32) &&& 31)) - (1 : Int32))))), .val (.int ((p1 ||| ((286331153 : Int32) &&& (((1 : Int32) <<< ((16 : Int32) &&& 31)) - (1 : Int32)))) &&& (((15 : Int32) <<< ((16 : Int32) &&& 31)) ^^^ (-1 : Int32)))), .val (.int (1 : Int32)), .val (.int (1 : Int32))] [(.int (1 : Int32))])) _
                  refine XS.ifNo X56.here hx rfl (hb hby at_99) rfl ((if0 _ _).trans (feq (by decide : ¬ ((1 : Int32) = (0 : Int32)))).1) ?_
                  show Steps p.tables e below (T56.setTop (mkF m 102 #[.val (.int p1), .val (.int p2), .val (.int (4 : Int32)), .val (.int (((1 : Int32) <<< ((16 : Int32) &&& 31)) - (1 : Int32))), .val (.int (p1 ||| ((286331153 : Int32) &&& (((1 : Int32) <<< ((16 : Int32) &&& 31)) - (1 : Int32))))), .val (.int ((p1 ||| ((286331153 : Int32) &&& (((1 : Int32) <<< ((16 : Int32) &&& 31)) - (1 : Int32)))) &&& (((15 : Int32) <<< ((16 : Int32) &&& 31)) ^^^ (-1 : Int32)))), .val (.int (1 : Int32)), .val (.int (1 : Int32))] [])) _
                  refine XS.iconst X56.here hx rfl (hb hby at_102) ?_
                  show Steps p.tables e below (T56.setTop (mkF m 103 #[.val (.int p1), .val (.int p2), .val (.int (4 : Int32)), .val (.int (((1 : Int32) <<< ((16 : Int32) &&& 31)) - (1 : Int32))), .val (.int (p1 ||| ((286331153 : Int32) &&& (((1 : Int32) <<< ((16 : Int32) &&& 31)) - (1 : Int32))))), .val (.int ((p1 ||| ((286331153 : Int32) &&& (((1 : Int32) <<< ((16 : Int32) &&& 31)) - (1 : Int32)))) &&& (((15 : Int32) <<< ((16 : Int32) &&& 31)) ^^^ (-1 : Int32)))), .val (.int (1 : Int32)), .val (.int (1 : Int32))] [(.int (1 : Int32))])) _
                  refine XS.goto X56.here hx rfl (pc0 := 103) (pc' := 107) rfl (hb hby at_103) (by decide) (by decide) ?_
                  show Steps p.tables e below (T56.setTop (mkF m 107 #[.val (.int p1), .val (.int p2), .val (.int (4 : Int32)), .val (.int (((1 : Int32) <<< ((16 : Int32) &&& 31)) - (1 : Int32))), .val (.int (p1 ||| ((286331153 : Int32) &&& (((1 : Int32) <<< ((16 : Int32) &&& 31)) - (1 : Int32))))), .val (.int ((p1 ||| ((286331153 : Int32) &&& (((1 : Int32) <<< ((16 : Int32) &&& 31)) - (1 : Int32)))) &&& (((15 : Int32) <<< ((16 : Int32) &&& 31)) ^^^ (-1 : Int32)))), .val (.int (1 : Int32)), .val (.int (1 : Int32))] [(.int (1 : Int32))])) _
                  exact retN X56 hx (t := .boolean) Bd.returns (by simp) (hb hby at_107) hr
                · show own_Q0 Z p1 p2 h0 n0 _ T56.heap _
                  rw [e56]
                  exact ⟨(by rw [own_f0, if_neg hc1, if_neg hc5, if_neg hc9, if_neg hc13, if_pos hc17, if_pos hc18, if_pos hc19]), N57⟩
              ·
                obtain ⟨fs, hr, hrun, hended, hW, hsame⟩ := X56.leave (v := some (.int (0 : Int32))) (fun h => by rw [Bd.returns] at h; cases h)
                refine ⟨_, _, k58 _ ?_, hrun, hended, _, _, rfl, ?_, ⟨_, rfl⟩, hW, hsame.mono (by decide) (by decide)⟩
                · show Steps p.tables e below (T56.setTop (mkF m 82 #[.val (.int p1), .val (.int p2), .val (.int (4 : Int32)), .val (.int (((1 : Int32) <<< ((16 : Int32) &&& 31)) - (1 : Int32))), .val (.int (p1 ||| ((286331153 : Int32) &&& (((1 : Int32) <<< ((16 : Int32) &&& 31)) - (1 : Int32))))), .val (.int ((p1 ||| ((286331153 : Int32) &&& (((1 : Int32) <<< ((16 : Int32) &&& 31)) - (1 : Int32)))) &&& (((15 : Int32) <<< ((16 : Int32) &&& 31)) ^^^ (-1 : Int32)))), .val (.int (1 : Int32)), .unset] [(.int (4 : Int32)), (.int (own_f1 ((p1 ||| ((286331153 : Int32) &&& (((1 : Int32) <<< ((16 : Int32) &&& 31)) - (1 : Int32)))) &&& (((15 : Int32) <<< ((16 : Int32) &&& 31)) ^^^ (-1 : Int32)))))])) _
                  refine XS.icmpYes X56.here hx rfl (pc0 := 82) (pc' := 89) rfl (hb hby at_82) rfl (feq hc19).2 (by decide) (by decide) ?_
                  show Steps p.tables e below (T56.setTop (mkF m 89 #[.val (.int p1), .val (.int p2), .val (.int (4 : Int32)), .val (.int (((1 : Int32) <<< ((16 : Int32) &&& 31)) - (1 : Int32))), .val (.int (p1 ||| ((286331153 : Int32) &&& (((1 : Int32) <<< ((16 : Int32) &&& 31)) - (1 : Int32))))), .val (.int ((p1 ||| ((286331153 : Int32) &&& (((1 : Int32) <<< ((16 : Int32) &&& 31)) - (1 : Int32)))) &&& (((15 : Int32) <<< ((16 : Int32) &&& 31)) ^^^ (-1 : Int32)))), .val (.int (1 : Int32)), .unset] [])) _
                  refine XS.iconst X56.here hx rfl (hb hby at_89) ?_
                  show Steps p.tables e below (T56.setTop (mkF m 90 #[.val (.int p1), .val (.int p2), .val (.int (4 : Int32)), .val (.int (((1 : Int32) <<< ((16 : Int32) &&& 31)) - (1 : Int32))), .val (.int (p1 ||| ((286331153 : Int32) &&& (((1 : Int32) <<< ((16 : Int32) &&& 31)) - (1 : Int32))))), .val (.int ((p1 ||| ((286331153 : Int32) &&& (((1 : Int32) <<< ((16 : Int32) &&& 31)) - (1 : Int32)))) &&& (((15 : Int32) <<< ((16 : Int32) &&& 31)) ^^^ (-1 : Int32)))), .val (.int (1 : Int32)), .unset] [(.int (0 : Int32))])) _
                  refine XS.istore X56.here hx rfl (hb hby at_90) rfl (l' := #[.val (.int p1), .val (.int p2), .val (.int (4 : Int32)), .val (.int (((1 : Int32) <<< ((16 : Int32) &&& 31)) - (1 : Int32))), .val (.int (p1 ||| ((286331153 : Int32) &&& (((1 : Int32) <<< ((16 : Int32) &&& 31)) - (1 : Int32))))), .val (.int ((p1 ||| ((286331153 : Int32) &&& (((1 : Int32) <<< ((16 : Int32) &&& 31)) - (1 : Int32)))) &&& (((15 : Int32) <<< ((16 : Int32) &&& 31)) ^^^ (-1 : Int32)))), .val (.int (1 : Int32)), .val (.int (0 : Int32))]) rfl ?_
                  show Steps p.tables e below (T56.setTop (mkF m 92 #[.val (.int p1), .val (.int p2), .val (.int (4 : Int32)), .val (.int (((1 : Int32) <<< ((16 : Int32) &&& 31)) - (1 : Int32))), .val (.int (p1 ||| ((286331153 : Int32) &&& (((1 : Int32) <<< ((16 : Int32) &&& 31)) - (1 : Int32))))), .val (.int ((p1 ||| ((286331153 : Int32) &&& (((1 : Int32) <<< ((16 : Int32) &&& 31)) - (1 : Int32)))) &&& (((15 : Int32) <<< ((16 : Int32) &&& 31)) ^^^ (-1 : Int32)))), .val (.int (1 : Int32)), .val (.int (0 : Int32))] [])) _
                  refine XS.iload X56.here hx rfl (hb hby at_92) rfl ?_
                  show Steps p.tables e below (T56.setTop (mkF m 94 #[.val (.int p1), .val (.int p2), .val (.int (4 : Int32)), .val (.int (((1 : Int32) <<< ((16 : Int32) &&& 31)) - (1 : Int32))), .val (.int (p1 ||| ((286331153 : Int32) &&& (((1 : Int32) <<< ((16 : Int32) &&& 31)) - (1 : Int32))))), .val (.int ((p1 ||| ((286331153 : Int32) &&& (((1 : Int32) <<< ((16 : Int32) &&& 31)) - (1 : Int32)))) &&& (((15 : Int32) <<< ((16 : Int32) &&& 31)) ^^^ (-1 : Int32)))), .val (.int (1 : Int32)), .val (.int (0 : Int32))] [(.int (1 : Int32))])) _
                  refine XS.ifNo X56.here hx rfl (hb hby at_94) rfl ((if0 _ _).trans (feq (by decide : ¬ ((1 : Int32) = (0 : Int32)))).1) ?_
                  show Steps p.tables e below (T56.setTop (mkF m 97 #[.val (.int p1), .val (.int p2), .val (.int (4 : Int32)), .val (.int (((1 : Int32) <<< ((16 : Int32) &&& 31)) - (1 : Int32))), .val (.int (p1 ||| ((286331153 : Int32) &&& (((1 : Int32) <<< ((16 : Int32) &&& 31)) - (1 : Int32))))), .val (.int ((p1 ||| ((286331153 : Int32) &&& (((1 : Int32) <<< ((16 : Int32) &&& 31)) - (1 : Int32)))) &&& (((15 : Int32) <<< ((16 : Int32) &&& 31)) ^^^ (-1 : Int32)))), .val (.int (1 : Int32)), .val (.int (0 : Int32))] [])) _
                  refine XS.iload X56.here hx rfl (hb hby at_97) rfl ?_
                  show Steps p.tables e below (T56.setTop (mkF m 99 #[.val (.int p1), .val (.int p2), .val (.int (4 : Int32)), .val (.int (((1 : Int32) <<< ((16 : Int32) &&& 31)) - (1 : Int32))), .val (.int (p1 ||| ((286331153 : Int32) &&& (((1 : Int32) <<< ((16 : Int32) &&& 31)) - (1 : Int32))))), .val (.int ((p1 ||| ((286331153 : Int32) &&& (((1 : Int32) <<< ((16 : Int32) &&& 31)) - (1 : Int32)))) &&& (((15 : Int32) <<< ((16 : Int32) &&& 31)) ^^^ (-1 : Int32)))), .val (.int (1 : Int32)), .val (.int (0 : Int32))] [(.int (0 : Int32))])) _
                  refine XS.ifYes X56.here hx rfl (pc0 := 99) (pc' := 106) rfl (hb hby at_99) rfl ((if0 _ _).trans (teq (by decide : (0 : Int32) = (0 : Int32))).1) (by decide) (by decide) ?_
                  show Steps p.tables e below (T56.setTop (mkF m 106 #[.val (.int p1), .val (.int p2), .val (.int (4 : Int32)), .val (.int (((1 : Int32) <<< ((16 : Int32) &&& 31)) - (1 : Int32))), .val (.int (p1 ||| ((286331153 : Int32) &&& (((1 : Int32) <<< ((16 : Int32) &&& 31)) - (1 : Int32))))), .val (.int ((p1 ||| ((286331153 : Int32) &&& (((1 : Int32) <<< ((16 : Int32) &&& 31)) - (1 : Int32)))) &&& (((15 : Int32) <<< ((16 : Int32) &&& 31)) ^^^ (-1 : Int32)))), .val (.int (1 : Int32)), .val (.int (0 : Int32))] [])) _
                  refine XS.iconst X56.here hx rfl (hb hby at_106) ?_
                  show Steps p.tables e below (T56.setTop (mkF m 107 #[.val (.int p1), .val (.int p2), .val (.int (4 : Int32)), .val (.int (((1 : Int32) <<< ((16 : Int32) &&& 31)) - (1 : Int32))), .val (.int (p1 ||| ((286331153 : Int32) &&& (((1 : Int32) <<< ((16 : Int32) &&& 31)) - (1 : Int32))))), .val (.int ((p1 ||| ((286331153 : Int32) &&& (((1 : Int32) <<< ((16 : Int32) &&& 31)) - (1 : Int32)))) &&& (((15 : Int32) <<< ((16 : Int32) &&& 31)) ^^^ (-1 : Int32)))), .val (.int (1 : Int32)), .val (.int (0 : Int32))] [(.int (0 : Int32))])) _
                  exact retN X56 hx (t := .boolean) Bd.returns (by simp) (hb hby at_107) hr
                · show own_Q0 Z p1 p2 h0 n0 _ T56.heap _
                  rw [e56]
                  exact ⟨(by rw [own_f0, if_neg hc1, if_neg hc5, if_neg hc9, if_neg hc13, if_pos hc17, if_pos hc18, if_neg hc19]), N57⟩
            ·
              obtain ⟨v59, _, ⟨T59, L59, k59, n59⟩, -, X59, ⟨Lc59, hQ59, l59, y59, z59⟩, st59⟩ := Jvm.LawKit.callS X53 hx (y := (⟨"com/example/kerb/kerb/txn/SoleLocks", "length", "(I)I"⟩ : MethodName)) hown (mvT hZ (hw _ (List.mem_of_getElem? (i := 2) rfl))) (mvT hZ (hw _ (List.mem_of_getElem? (i := 3) rfl))) (mvT hZ (hw _ (List.mem_of_getElem? (i := 4) rfl))) (mvT hZ (hw _ (List.mem_of_getElem? (i := 5) rfl))) (by decide) (backOf (W := 0) (own_rm1 l Z a0 hw [] ((p1 ||| ((286331153 : Int32) &&& (((1 : Int32) <<< ((16 : Int32) &&& 31)) - (1 : Int32)))) &&& (((15 : Int32) <<< ((16 : Int32) &&& 31)) ^^^ (-1 : Int32))) h0 n0 Z0) hZ (hw _ (List.mem_of_getElem? (i := 5) rfl)) (hw _ (List.mem_of_getElem? (i := 4) rfl)) (by decide) (by decide)) (g := (mkF m 78 #[.val (.int p1), .val (.int p2), .val (.int (4 : Int32)), .val (.int (((1 : Int32) <<< ((16 : Int32) &&& 31)) - (1 : Int32))), .val (.int (p1 ||| ((286331153 : Int32) &&& (((1 : Int32) <<< ((16 : Int32) &&& 31)) - (1 : Int32))))), .val (.int ((p1 ||| ((286331153 : Int32) &&& (((1 : Int32) <<< ((16 : Int32) &&& 31)) - (1 : Int32)))) &&& (((15 : Int32) <<< ((16 : Int32) &&& 31)) ^^^ (-1 : Int32)))), .val (.int (0 : Int32)), .unset] [(.int ((p1 ||| ((286331153 : Int32) &&& (((1 : Int32) <<< ((16 : Int32) &&& 31)) - (1 : Int32)))) &&& (((15 : Int32) <<< ((16 : Int32) &&& 31)) ^^^ (-1 : Int32))))])) rfl (by rw [hml]; rfl) (argsL := [(.int ((p1 ||| ((286331153 : Int32) &&& (((1 : Int32) <<< ((16 : Int32) &&& 31)) - (1 : Int32)))) &&& (((15 : Int32) <<< ((16 : Int32) &&& 31)) ^^^ (-1 : Int32))))]) (rest := []) (lenOf own_pd69 rfl) rfl (by show 2 * 0 + _ ≤ _; exact Nat.le_of_eq rfl) (hb hby at_78) (fun _ _ => ⟨rfl, e53, (by decide : 0 + 0 ≤ _), (by decide : 0 + 0 ≤ _)⟩)
              dsimp only [Pt.U, Pt.locs, Pt.cells, Pt.slots] at X59 l59 y59 z59 st59 hQ59
              subst l59 y59 z59
              obtain ⟨rfl, N59q, e59⟩ := hQ59
              have N60 := Fr.app N54 N59q
              have k61 : ∀ t, Steps p.tables e below (T59.setTop (mkF m 82 #[.val (.int p1), .val (.int p2), .val (.int (4 : Int32)), .val (.int (((1 : Int32) <<< ((16 : Int32) &&& 31)) - (1 : Int32))), .val (.int (p1 ||| ((286331153 : Int32) &&& (((1 : Int32) <<< ((16 : Int32) &&& 31)) - (1 : Int32))))), .val (.int ((p1 ||| ((286331153 : Int32) &&& (((1 : Int32) <<< ((16 : Int32) &&& 31)) - (1 : Int32)))) &&& (((15 : Int32) <<< ((16 : Int32) &&& 31)) ^^^ (-1 : Int32)))), .val (.int (0 : Int32)), .unset] [(.int (4 : Int32)), (.int (own_f1 ((p1 ||| ((286331153 : Int32) &&& (((1 : Int32) <<< ((16 : Int32) &&& 31)) - (1 : Int32)))) &&& (((15 : Int32) <<< ((16 : Int32) &&& 31)) ^^^ (-1 : Int32)))))])) t → Steps p.tables e below (s₁.setTop (entryFrame m #[(.int p1), (.int p2)] maxLocals)) t := by
                intro t kt
                refine k55 t ?_
                show Steps p.tables e below (T53.setTop (mkF m 66 #[.val (.int p1), .val (.int p2), .val (.int (4 : Int32)), .val (.int (((1 : Int32) <<< ((16 : Int32) &&& 31)) - (1 : Int32))), .val (.int (p1 ||| ((286331153 : Int32) &&& (((1 : Int32) <<< ((16 : Int32) &&& 31)) - (1 : Int32))))), .val (.int ((p1 ||| ((286331153 : Int32) &&& (((1 : Int32) <<< ((16 : Int32) &&& 31)) - (1 : Int32)))) &&& (((15 : Int32) <<< ((16 : Int32) &&& 31)) ^^^ (-1 : Int32)))), .unset, .unset] [(.int (own_f2 p1)), (.int (own_f1 p1))])) _
                refine XS.icmpYes X53.here hx rfl (pc0 := 66) (pc' := 73) rfl (hb hby at_66) rfl (feq hc18).2 (by decide) (by decide) ?_
                show Steps p.tables e below (T53.setTop (mkF m 73 #[.val (.int p1), .val (.int p2), .val (.int (4 : Int32)), .val (.int (((1 : Int32) <<< ((16 : Int32) &&& 31)) - (1 : Int32))), .val (.int (p1 ||| ((286331153 : Int32) &&& (((1 : Int32) <<< ((16 : Int32) &&& 31)) - (1 : Int32))))), .val (.int ((p1 ||| ((286331153 : Int32) &&& (((1 : Int32) <<< ((16 : Int32) &&& 31)) - (1 : Int32)))) &&& (((15 : Int32) <<< ((16 : Int32) &&& 31)) ^^^ (-1 : Int32)))), .unset, .unset] [])) _
                refine XS.iconst X53.here hx rfl (hb hby at_73) ?_
                show Steps p.tables e below (T53.setTop (mkF m 74 #[.val (.int p1), .val (.int p2), .val (.int (4 : Int32)), .val (.int (((1 : Int32) <<< ((16 : Int32) &&& 31)) - (1 : Int32))), .val (.int (p1 ||| ((286331153 : Int32) &&& (((1 : Int32) <<< ((16 : Int32) &&& 31)) - (1 : Int32))))), .val (.int ((p1 ||| ((286331153 : Int32) &&& (((1 : Int32) <<< ((16 : Int32) &&& 31)) - (1 : Int32)))) &&& (((15 : Int32) <<< ((16 : Int32) &&& 31)) ^^^ (-1 : Int32)))), .unset, .unset] [(.int (0 : Int32))])) _
                refine XS.istore X53.here hx rfl (hb hby at_74) rfl (l' := #[.val (.int p1), .val (.int p2), .val (.int (4 : Int32)), .val (.int (((1 : Int32) <<< ((16 : Int32) &&& 31)) - (1 : Int32))), .val (.int (p1 ||| ((286331153 : Int32) &&& (((1 : Int32) <<< ((16 : Int32) &&& 31)) - (1 : Int32))))), .val (.int ((p1 ||| ((286331153 : Int32) &&& (((1 : Int32) <<< ((16 : Int32) &&& 31)) - (1 : Int32)))) &&& (((15 : Int32) <<< ((16 : Int32) &&& 31)) ^^^ (-1 : Int32)))), .val (.int (0 : Int32)), .unset]) rfl ?_
                show Steps p.tables e below (T53.setTop (mkF m 76 #[.val (.int p1), .val (.int p2), .val (.int (4 : Int32)), .val (.int (((1 : Int32) <<< ((16 : Int32) &&& 31)) - (1 : Int32))), .val (.int (p1 ||| ((286331153 : Int32) &&& (((1 : Int32) <<< ((16 : Int32) &&& 31)) - (1 : Int32))))), .val (.int ((p1 ||| ((286331153 : Int32) &&& (((1 : Int32) <<< ((16 : Int32) &&& 31)) - (1 : Int32)))) &&& (((15 : Int32) <<< ((16 : Int32) &&& 31)) ^^^ (-1 : Int32)))), .val (.int (0 : Int32)), .unset] [])) _
                refine XS.iload X53.here hx rfl (hb hby at_76) rfl ?_
                show Steps p.tables e below (T53.setTop (mkF m 78 #[.val (.int p1), .val (.int p2), .val (.int (4 : Int32)), .val (.int (((1 : Int32) <<< ((16 : Int32) &&& 31)) - (1 : Int32))), .val (.int (p1 ||| ((286331153 : Int32) &&& (((1 : Int32) <<< ((16 : Int32) &&& 31)) - (1 : Int32))))), .val (.int ((p1 ||| ((286331153 : Int32) &&& (((1 : Int32) <<< ((16 : Int32) &&& 31)) - (1 : Int32)))) &&& (((15 : Int32) <<< ((16 : Int32) &&& 31)) ^^^ (-1 : Int32)))), .val (.int (0 : Int32)), .unset] [(.int ((p1 ||| ((286331153 : Int32) &&& (((1 : Int32) <<< ((16 : Int32) &&& 31)) - (1 : Int32)))) &&& (((15 : Int32) <<< ((16 : Int32) &&& 31)) ^^^ (-1 : Int32))))])) _
                refine st59 _ ?_
                show Steps p.tables e below (T59.setTop (mkF m 81 #[.val (.int p1), .val (.int p2), .val (.int (4 : Int32)), .val (.int (((1 : Int32) <<< ((16 : Int32) &&& 31)) - (1 : Int32))), .val (.int (p1 ||| ((286331153 : Int32) &&& (((1 : Int32) <<< ((16 : Int32) &&& 31)) - (1 : Int32))))), .val (.int ((p1 ||| ((286331153 : Int32) &&& (((1 : Int32) <<< ((16 : Int32) &&& 31)) - (1 : Int32)))) &&& (((15 : Int32) <<< ((16 : Int32) &&& 31)) ^^^ (-1 : Int32)))), .val (.int (0 : Int32)), .unset] [(.int (own_f1 ((p1 ||| ((286331153 : Int32) &&& (((1 : Int32) <<< ((16 : Int32) &&& 31)) - (1 : Int32)))) &&& (((15 : Int32) <<< ((16 : Int32) &&& 31)) ^^^ (-1 : Int32)))))])) _
                refine XS.iloadN X59.here hx rfl (hb hby at_81) rfl ?_
                exact kt
              by_cases hc20 : (own_f1 ((p1 ||| ((286331153 : Int32) &&& (((1 : Int32) <<< ((16 : Int32) &&& 31)) - (1 : Int32)))) &&& (((15 : Int32) <<< ((16 : Int32) &&& 31)) ^^^ (-1 : Int32)))) = (4 : Int32)
              ·
                obtain ⟨fs, hr, hrun, hended, hW, hsame⟩ := X59.leave (v := some (.int (0 : Int32))) (fun h => by rw [Bd.returns] at h; cases h)
                refine ⟨_, _, k61 _ ?_, hrun, hended, _, _, rfl, ?_, ⟨_, rfl⟩, hW, hsame.mono (by decide) (by decide)⟩
                · show Steps p.tables e below (T59.setTop (mkF m 82 #[.val (.int p1), .val (.int p2), .val (.int (4 : Int32)), .val (.int (((1 : Int32) <<< ((16 : Int32) &&& 31)) - (1 : Int32))), .val (.int (p1 ||| ((286331153 : Int32) &&& (((1 : Int32) <<< ((16 : Int32) &&& 31)) - (1 : Int32))))), .val (.int ((p1 ||| ((286331153 : Int32) &&& (((1 : Int32) <<< ((16 : Int32) &&& 31)) - (1 : Int32)))) &&& (((15 : Int32) <<< ((16 : Int32) &&& 31)) ^^^ (-1 : Int32)))), .val (.int (0 : Int32)), .unset] [(.int (4 : Int32)), (.int (own_f1 ((p1 ||| ((286331153 : Int32) &&& (((1 : Int32) <<< ((16 : Int32) &&& 31)) - (1 : Int32)))) &&& (((15 : Int32) <<< ((16 : Int32) &&& 31)) ^^^ (-1 : Int32)))))])) _
                  refine XS.icmpNo X59.here hx rfl (hb hby at_82) rfl (teq hc20).2 ?_
                  show Steps p.tables e below (T59.setTop (mkF m 85 #[.val (.int p1), .val (.int p2), .val (.int (4 : Int32)), .val (.int (((1 : Int32) <<< ((16 : Int32) &&& 31)) - (1 : Int32))), .val (.int (p1 ||| ((286331153 : Int32) &&& (((1 : Int32) <<< ((16 : Int32) &&& 31)) - (1 : Int32))))), .val (.int ((p1 ||| ((286331153 : Int32) &&& (((1 : Int32) <<< ((16 : Int32) &&& 31)) - (1 : Int32)))) &&& (((15 : Int32) <<< ((16 : Int32) &&& 31)) ^^^ (-1 : Int32)))), .val (.int (0 : Int32)), .unset] [])) _
                  refine XS.iconst X59.here hx rfl (hb hby at_85) ?_
                  show Steps p.tables e below (T59.setTop (mkF m 86 #[.val (.int p1), .val (.int p2), .val (.int (4 : Int32)), .val (.int (((1 : Int32) <<< ((16 : Int32) &&& 31)) - (1 : Int32))), .val (.int (p1 ||| ((286331153 : Int32) &&& (((1 : Int32) <<< ((16 : Int32) &&& 31)) - (1 : Int32))))), .val (.int ((p1 ||| ((286331153 : Int32) &&& (((1 : Int32) <<< ((16 : Int32) &&& 31)) - (1 : Int32)))) &&& (((15 : Int32) <<< ((16 : Int32) &&& 31)) ^^^ (-1 : Int32)))), .val (.int (0 : Int32)), .unset] [(.int (1 : Int32))])) _
                  refine XS.goto X59.here hx rfl (pc0 := 86) (pc' := 90) rfl (hb hby at_86) (by decide) (by decide) ?_
                  show Steps p.tables e below (T59.setTop (mkF m 90 #[.val (.int p1), .val (.int p2), .val (.int (4 : Int32)), .val (.int (((1 : Int32) <<< ((16 : Int32) &&& 31)) - (1 : Int32))), .val (.int (p1 ||| ((286331153 : Int32) &&& (((1 : Int32) <<< ((16 : Int32) &&& 31)) - (1 : Int32))))), .val (.int ((p1 ||| ((286331153 : Int32) &&& (((1 : Int32) <<< ((16 : Int32) &&& 31)) - (1 : Int32)))) &&& (((15 : Int32) <<< ((16 : Int32) &&& 31)) ^^^ (-1 : Int32)))), .val (.int (0 : Int32)), .unset] [(.int (1 : Int32))])) _
                  refine XS.istore X59.here hx rfl (hb hby at_90) rfl (l' := #[.val (.int p1), .val (.int p2), .val (.int (4 : Int32)), .val (.int (((1 : Int32) <<< ((16 : Int32) &&& 31)) - (1 : Int32))), .val (.int (p1 ||| ((286331153 : Int32) &&& (((1 : Int32) <<< ((16 : Int32) &&& 31)) - (1 : Int32))))), .val (.int ((p1 ||| ((286331153 : Int32) &&& (((1 : Int32) <<< ((16 : Int32) &&& 31)) - (1 : Int32)))) &&& (((15 : Int32) <<< ((16 : Int32) &&& 31)) ^^^ (-1 : Int32)))), .val (.int (0 : Int32)), .val (.int (1 : Int32))]) rfl ?_
                  show Steps p.tables e below (T59.setTop (mkF m 92 #[.val (.int p1), .val (.int p2), .val (.int (4 : Int32)), .val (.int (((1 : Int32) <<< ((16 : Int32) &&& 31)) - (1 : Int32))), .val (.int (p1 ||| ((286331153 : Int32) &&& (((1 : Int32) <<< ((16 : Int32) &&& 31)) - (1 : Int32))))), .val (.int ((p1 ||| ((286331153 : Int32) &&& (((1 : Int32) <<< ((16 : Int32) &&& 31)) - (1 : Int32)))) &&& (((15 : Int32) <<< ((16 : Int32) &&& 31)) ^^^ (-1 : Int32)))), .val (.int (0 : Int32)), .val (.int (1 : Int32))] [])) _
                  refine XS.iload X59.here hx rfl (hb hby at_92) rfl ?_
                  show Steps p.tables e below (T59.setTop (mkF m 94 #[.val (.int p1), .val (.int p2), .val (.int (4 : Int32)), .val (.int (((1 : Int32) <<< ((16 : Int32) &&& 31)) - (1 : Int32))), .val (.int (p1 ||| ((286331153 : Int32) &&& (((1 : Int32) <<< ((16 : Int32) &&& 31)) - (1 : Int32))))), .val (.int ((p1 ||| ((286331153 : Int32) &&& (((1 : Int32) <<< ((16 : Int32) &&& 31)) - (1 : Int32)))) &&& (((15 : Int32) <<< ((16 : Int32) &&& 31)) ^^^ (-1 : Int32)))), .val (.int (0 : Int32)), .val (.int (1 : Int32))] [(.int (0 : Int32))])) _
                  refine XS.ifYes X59.here hx rfl (pc0 := 94) (pc' := 106) rfl (hb hby at_94) rfl ((if0 _ _).trans (teq (by decide : (0 : Int32) = (0 : Int32))).1) (by decide) (by decide) ?_
                  show Steps p.tables e below (T59.setTop (mkF m 106 #[.val (.int p1), .val (.int p2), .val (.int (4 : Int32)), .val (.int (((1 : Int32) <<< ((16 : Int32) &&& 31)) - (1 : Int32))), .val (.int (p1 ||| ((286331153 : Int32) &&& (((1 : Int32) <<< ((16 : Int32) &&& 31)) - (1 : Int32))))), .val (.int ((p1 ||| ((286331153 : Int32) &&& (((1 : Int32) <<< ((16 : Int32) &&& 31)) - (1 : Int32)))) &&& (((15 : Int32) <<< ((16 : Int32) &&& 31)) ^^^ (-1 : Int32)))), .val (.int (0 : Int32)), .val (.int (1 : Int32))] [])) _
                  refine XS.iconst X59.here hx rfl (hb hby at_106) ?_
                  show Steps p.tables e below (T59.setTop (mkF m 107 #[.val (.int p1), .val (.int p2), .val (.int (4 : Int32)), .val (.int (((1 : Int32) <<< ((16 : Int32) &&& 31)) - (1 : Int32))), .val (.int (p1 ||| ((286331153 : Int32) &&& (((1 : Int32) <<< ((16 : Int32) &&& 31)) - (1 : Int32))))), .val (.int ((p1 ||| ((286331153 : Int32) &&& (((1 : Int32) <<< ((16 : Int32) &&& 31)) - (1 : Int32)))) &&& (((15 : Int32) <<< ((16 : Int32) &&& 31)) ^^^ (-1 : Int32)))), .val (.int (0 : Int32)), .val (.int (1 : Int32))] [(.int (0 : Int32))])) _
                  exact retN X59 hx (t := .boolean) Bd.returns (by simp) (hb hby at_107) hr
                · show own_Q0 Z p1 p2 h0 n0 _ T59.heap _
                  rw [e59]
                  exact ⟨(by rw [own_f0, if_neg hc1, if_neg hc5, if_neg hc9, if_neg hc13, if_pos hc17, if_neg hc18, if_pos hc20]), N60⟩
              ·
                obtain ⟨fs, hr, hrun, hended, hW, hsame⟩ := X59.leave (v := some (.int (0 : Int32))) (fun h => by rw [Bd.returns] at h; cases h)
                refine ⟨_, _, k61 _ ?_, hrun, hended, _, _, rfl, ?_, ⟨_, rfl⟩, hW, hsame.mono (by decide) (by decide)⟩
                · show Steps p.tables e below (T59.setTop (mkF m 82 #[.val (.int p1), .val (.int p2), .val (.int (4 : Int32)), .val (.int (((1 : Int32) <<< ((16 : Int32) &&& 31)) - (1 : Int32))), .val (.int (p1 ||| ((286331153 : Int32) &&& (((1 : Int32) <<< ((16 : Int32) &&& 31)) - (1 : Int32))))), .val (.int ((p1 ||| ((286331153 : Int32) &&& (((1 : Int32) <<< ((16 : Int32) &&& 31)) - (1 : Int32)))) &&& (((15 : Int32) <<< ((16 : Int32) &&& 31)) ^^^ (-1 : Int32)))), .val (.int (0 : Int32)), .unset] [(.int (4 : Int32)), (.int (own_f1 ((p1 ||| ((286331153 : Int32) &&& (((1 : Int32) <<< ((16 : Int32) &&& 31)) - (1 : Int32)))) &&& (((15 : Int32) <<< ((16 : Int32) &&& 31)) ^^^ (-1 : Int32)))))])) _
                  refine XS.icmpYes X59.here hx rfl (pc0 := 82) (pc' := 89) rfl (hb hby at_82) rfl (feq hc20).2 (by decide) (by decide) ?_
                  show Steps p.tables e below (T59.setTop (mkF m 89 #[.val (.int p1), .val (.int p2), .val (.int (4 : Int32)), .val (.int (((1 : Int32) <<< ((16 : Int32) &&& 31)) - (1 : Int32))), .val (.int (p1 ||| ((286331153 : Int32) &&& (((1 : Int32) <<< ((16 : Int32) &&& 31)) - (1 : Int32))))), .val (.int ((p1 ||| ((286331153 : Int32) &&& (((1 : Int32) <<< ((16 : Int32) &&& 31)) - (1 : Int32)))) &&& (((15 : Int32) <<< ((16 : Int32) &&& 31)) ^^^ (-1 : Int32)))), .val (.int (0 : Int32)), .unset] [])) _
                  refine XS.iconst X59.here hx rfl (hb hby at_89) ?_
                  show Steps p.tables e below (T59.setTop (mkF m 90 #[.val (.int p1), .val (.int p2), .val (.int (4 : Int32)), .val (.int (((1 : Int32) <<< ((16 : Int32) &&& 31)) - (1 : Int32))), .val (.int (p1 ||| ((286331153 : Int32) &&& (((1 : Int32) <<< ((16 : Int32) &&& 31)) - (1 : Int32))))), .val (.int ((p1 ||| ((286331153 : Int32) &&& (((1 : Int32) <<< ((16 : Int32) &&& 31)) - (1 : Int32)))) &&& (((15 : Int32) <<< ((16 : Int32) &&& 31)) ^^^ (-1 : Int32)))), .val (.int (0 : Int32)), .unset] [(.int (0 : Int32))])) _
                  refine XS.istore X59.here hx rfl (hb hby at_90) rfl (l' := #[.val (.int p1), .val (.int p2), .val (.int (4 : Int32)), .val (.int (((1 : Int32) <<< ((16 : Int32) &&& 31)) - (1 : Int32))), .val (.int (p1 ||| ((286331153 : Int32) &&& (((1 : Int32) <<< ((16 : Int32) &&& 31)) - (1 : Int32))))), .val (.int ((p1 ||| ((286331153 : Int32) &&& (((1 : Int32) <<< ((16 : Int32) &&& 31)) - (1 : Int32)))) &&& (((15 : Int32) <<< ((16 : Int32) &&& 31)) ^^^ (-1 : Int32)))), .val (.int (0 : Int32)), .val (.int (0 : Int32))]) rfl ?_
                  show Steps p.tables e below (T59.setTop (mkF m 92 #[.val (.int p1), .val (.int p2), .val (.int (4 : Int32)), .val (.int (((1 : Int32) <<< ((16 : Int32) &&& 31)) - (1 : Int32))), .val (.int (p1 ||| ((286331153 : Int32) &&& (((1 : Int32) <<< ((16 : Int32) &&& 31)) - (1 : Int32))))), .val (.int ((p1 ||| ((286331153 : Int32) &&& (((1 : Int32) <<< ((16 : Int32) &&& 31)) - (1 : Int32)))) &&& (((15 : Int32) <<< ((16 : Int32) &&& 31)) ^^^ (-1 : Int32)))), .val (.int (0 : Int32)), .val (.int (0 : Int32))] [])) _
                  refine XS.iload X59.here hx rfl (hb hby at_92) rfl ?_
                  show Steps p.tables e below (T59.setTop (mkF m 94 #[.val (.int p1), .val (.int p2), .val (.int (4 : Int32)), .val (.int (((1 : Int32) <<< ((16 : Int32) &&& 31)) - (1 : Int32))), .val (.int (p1 ||| ((286331153 : Int32) &&& (((1 : Int32) <<< ((16 : Int32) &&& 31)) - (1 : Int32))))), .val (.int ((p1 ||| ((286331153 : Int32) &&& (((1 : Int32) <<< ((16 : Int32) &&& 31)) - (1 : Int32)))) &&& (((15 : Int32) <<< ((16 : Int32) &&& 31)) ^^^ (-1 : Int32)))), .val (.int (0 : Int32)), .val (.int (0 : Int32))] [(.int (0 : Int32))])) _
                  refine XS.ifYes X59.here hx rfl (pc0 := 94) (pc' := 106) rfl (hb hby at_94) rfl ((if0 _ _).trans (teq (by decide : (0 : Int32) = (0 : Int32))).1) (by decide) (by decide) ?_
                  show Steps p.tables e below (T59.setTop (mkF m 106 #[.val (.int p1), .val (.int p2), .val (.int (4 : Int32)), .val (.int (((1 : Int32) <<< ((16 : Int32) &&& 31)) - (1 : Int32))), .val (.int (p1 ||| ((286331153 : Int32) &&& (((1 : Int32) <<< ((16 : Int32) &&& 31)) - (1 : Int32))))), .val (.int ((p1 ||| ((286331153 : Int32) &&& (((1 : Int32) <<< ((16 : Int32) &&& 31)) - (1 : Int32)))) &&& (((15 : Int32) <<< ((16 : Int32) &&& 31)) ^^^ (-1 : Int32)))), .val (.int (0 : Int32)), .val (.int (0 : Int32))] [])) _
                  refine XS.iconst X59.here hx rfl (hb hby at_106) ?_
                  show Steps p.tables e below (T59.setTop (mkF m 107 #[.val (.int p1), .val (.int p2), .val (.int (4 : Int32)), .val (.int (((1 : Int32) <<< ((16 : Int32) &&& 31)) - (1 : Int32))), .val (.int (p1 ||| ((286331153 : Int32) &&& (((1 : Int32) <<< ((16 : Int32) &&& 31)) - (1 : Int32))))), .val (.int ((p1 ||| ((286331153 : Int32) &&& (((1 : Int32) <<< ((16 : Int32) &&& 31)) - (1 : Int32)))) &&& (((15 : Int32) <<< ((16 : Int32) &&& 31)) ^^^ (-1 : Int32)))), .val (.int (0 : Int32)), .val (.int (0 : Int32))] [(.int (0 : Int32))])) _
                  exact retN X59 hx (t := .boolean) Bd.returns (by simp) (hb hby at_107) hr
                · show own_Q0 Z p1 p2 h0 n0 _ T59.heap _
                  rw [e59]
                  exact ⟨(by rw [own_f0, if_neg hc1, if_neg hc5, if_neg hc9, if_neg hc13, if_pos hc17, if_neg hc18, if_neg hc20]), N60⟩
          ·
            by_cases hc21 : ((p2 &&& (2147483647 : Int32)) - ((p2 &&& (2147483647 : Int32)) / (9 : Int32)) * (9 : Int32)) = (5 : Int32)
            ·
              have k62 : ∀ t, Steps p.tables e below (s₁.setTop (mkF m 7 #[.val (.int p1), .val (.int p2), .unset, .unset, .unset, .unset, .unset, .unset] [(.int (5 : Int32))])) t → Steps p.tables e below (s₁.setTop (entryFrame m #[(.int p1), (.int p2)] maxLocals)) t := by
                intro t kt
                refine k1 t ?_
                rw [hc21]
                exact kt
              obtain ⟨v63, _, ⟨T63, L63, k63, n63⟩, -, X63, ⟨Lc63, hQ63, l63, y63, z63⟩, st63⟩ := Jvm.LawKit.callS X0 hx (y := (⟨"com/example/kerb/kerb/txn/SoleLocks", "length", "(I)I"⟩ : MethodName)) hown (mvT hZ (hw _ (List.mem_of_getElem? (i := 2) rfl))) (mvT hZ (hw _ (List.mem_of_getElem? (i := 3) rfl))) (mvT hZ (hw _ (List.mem_of_getElem? (i := 4) rfl))) (mvT hZ (hw _ (List.mem_of_getElem? (i := 5) rfl))) (by decide) (backOf (W := 0) (own_rm1 l Z a0 hw [] p1 h0 n0 Z0) hZ (hw _ (List.mem_of_getElem? (i := 5) rfl)) (hw _ (List.mem_of_getElem? (i := 4) rfl)) (by decide) (by decide)) (g := (mkF m 59 #[.val (.int p1), .val (.int p2), .val (.int (5 : Int32)), .val (.int (((1 : Int32) <<< ((20 : Int32) &&& 31)) - (1 : Int32))), .val (.int (p1 ||| ((286331153 : Int32) &&& (((1 : Int32) <<< ((20 : Int32) &&& 31)) - (1 : Int32))))), .val (.int ((p1 ||| ((286331153 : Int32) &&& (((1 : Int32) <<< ((20 : Int32) &&& 31)) - (1 : Int32)))) &&& (((15 : Int32) <<< ((20 : Int32) &&& 31)) ^^^ (-1 : Int32)))), .unset, .unset] [(.int p1)])) rfl (by rw [hml]; rfl) (argsL := [(.int p1)]) (rest := []) (lenOf own_pd69 rfl) rfl (by show 2 * 0 + _ ≤ _; exact Nat.le_of_eq rfl) (hb hby at_59) (fun _ _ => ⟨rfl, e0, (by decide : 0 + 0 ≤ _), (by decide : 0 + 0 ≤ _)⟩)
              dsimp only [Pt.U, Pt.locs, Pt.cells, Pt.slots] at X63 l63 y63 z63 st63 hQ63
              subst l63 y63 z63
              obtain ⟨rfl, N63q, e63⟩ := hQ63
              have N64 := Fr.app N0 N63q
              obtain ⟨v65, _, ⟨T65, L65, k65, n65⟩, -, X65, ⟨Lc65, hQ65, l65, y65, z65⟩, st65⟩ := Jvm.LawKit.callS X63 hx (y := (⟨"com/example/kerb/kerb/txn/SoleLocksLengthPinLaw", "ref", "(I)I"⟩ : MethodName)) hown (mvT hZ (hw _ (List.mem_of_getElem? (i := 6) rfl))) (mvT hZ (hw _ (List.mem_of_getElem? (i := 7) rfl))) (mvT hZ (hw _ (List.mem_of_getElem? (i := 8) rfl))) (mvT hZ (hw _ (List.mem_of_getElem? (i := 9) rfl))) (by decide) (backOf (W := 1) (own_rm2 l Z a0 hw [] p1 h0 n0 Z0) hZ (hw _ (List.mem_of_getElem? (i := 9) rfl)) (hw _ (List.mem_of_getElem? (i := 8) rfl)) (by decide) (by decide)) (g := (mkF m 63 #[.val (.int p1), .val (.int p2), .val (.int (5 : Int32)), .val (.int (((1 : Int32) <<< ((20 : Int32) &&& 31)) - (1 : Int32))), .val (.int (p1 ||| ((286331153 : Int32) &&& (((1 : Int32) <<< ((20 : Int32) &&& 31)) - (1 : Int32))))), .val (.int ((p1 ||| ((286331153 : Int32) &&& (((1 : Int32) <<< ((20 : Int32) &&& 31)) - (1 : Int32)))) &&& (((15 : Int32) <<< ((20 : Int32) &&& 31)) ^^^ (-1 : Int32)))), .unset, .unset] [(.int p1), (.int (own_f1 p1))])) rfl (by rw [hml]; rfl) (argsL := [(.int p1)]) (rest := [(.int (own_f1 p1))]) (lenOf own_pd69 rfl) rfl (by show 2 * 0 + _ ≤ _; exact Nat.le_of_eq rfl) (hb hby at_63) (fun _ _ => ⟨rfl, e63, (by decide : 0 + 0 ≤ _), (by decide : 0 + 0 ≤ _)⟩)
              dsimp only [Pt.U, Pt.locs, Pt.cells, Pt.slots] at X65 l65 y65 z65 st65 hQ65
              subst l65 y65 z65
              obtain ⟨rfl, N65q, e65⟩ := hQ65
              have N66 := Fr.app N64 N65q
              have k67 : ∀ t, Steps p.tables e below (T65.setTop (mkF m 66 #[.val (.int p1), .val (.int p2), .val (.int (5 : Int32)), .val (.int (((1 : Int32) <<< ((20 : Int32) &&& 31)) - (1 : Int32))), .val (.int (p1 ||| ((286331153 : Int32) &&& (((1 : Int32) <<< ((20 : Int32) &&& 31)) - (1 : Int32))))), .val (.int ((p1 ||| ((286331153 : Int32) &&& (((1 : Int32) <<< ((20 : Int32) &&& 31)) - (1 : Int32)))) &&& (((15 : Int32) <<< ((20 : Int32) &&& 31)) ^^^ (-1 : Int32)))), .unset, .unset] [(.int (own_f2 p1)), (.int (own_f1 p1))])) t → Steps p.tables e below (s₁.setTop (entryFrame m #[(.int p1), (.int p2)] maxLocals)) t := by
                intro t kt
                refine k62 t ?_
                show Steps p.tables e below (s₁.setTop (mkF m 7 #[.val (.int p1), .val (.int p2), .unset, .unset, .unset, .unset, .unset, .unset] [(.int (5 : Int32))])) _
                refine XS.istoreN X0.here hx rfl (hb hby at_7) rfl (l' := #[.val (.int p1), .val (.int p2), .val (.int (5 : Int32)), .unset, .unset, .unset, .unset, .unset]) rfl ?_
                show Steps p.tables e below (s₁.setTop (mkF m 8 #[.val (.int p1), .val (.int p2), .val (.int (5 : Int32)), .unset, .unset, .unset, .unset, .unset] [])) _
                refine XS.iloadN X0.here hx rfl (hb hby at_8) rfl ?_
                show Steps p.tables e below (s₁.setTop (mkF m 9 #[.val (.int p1), .val (.int p2), .val (.int (5 : Int32)), .unset, .unset, .unset, .unset, .unset] [(.int (5 : Int32))])) _
                refine XS.bipush X0.here hx rfl (hb hby at_9) ?_
                show Steps p.tables e below (s₁.setTop (mkF m 11 #[.val (.int p1), .val (.int p2), .val (.int (5 : Int32)), .unset, .unset, .unset, .unset, .unset] [(.int (8 : Int32)), (.int (5 : Int32))])) _
                refine XS.icmpYes X0.here hx rfl (pc0 := 11) (pc' := 18) rfl (hb hby at_11) rfl (feq (by decide : ¬ ((5 : Int32) = (8 : Int32)))).2 (by decide) (by decide) ?_
                show Steps p.tables e below (s₁.setTop (mkF m 18 #[.val (.int p1), .val (.int p2), .val (.int (5 : Int32)), .unset, .unset, .unset, .unset, .unset] [])) _
                refine XS.iconst X0.here hx rfl (hb hby at_18) ?_
                show Steps p.tables e below (s₁.setTop (mkF m 19 #[.val (.int p1), .val (.int p2), .val (.int (5 : Int32)), .unset, .unset, .unset, .unset, .unset] [(.int (1 : Int32))])) _
                refine XS.iconst X0.here hx rfl (hb hby at_19) ?_
                show Steps p.tables e below (s₁.setTop (mkF m 20 #[.val (.int p1), .val (.int p2), .val (.int (5 : Int32)), .unset, .unset, .unset, .unset, .unset] [(.int (4 : Int32)), (.int (1 : Int32))])) _
                refine XS.iloadN X0.here hx rfl (hb hby at_20) rfl ?_
                show Steps p.tables e below (s₁.setTop (mkF m 21 #[.val (.int p1), .val (.int p2), .val (.int (5 : Int32)), .unset, .unset, .unset, .unset, .unset] [(.int (5 : Int32)), (.int (4 : Int32)), (.int (1 : Int32))])) _
                refine XS.imul X0.here hx rfl (hb hby at_21) rfl ?_
                show Steps p.tables e below (s₁.setTop (mkF m 22 #[.val (.int p1), .val (.int p2), .val (.int (5 : Int32)), .unset, .unset, .unset, .unset, .unset] [(.int (20 : Int32)), (.int (1 : Int32))])) _
                refine XS.ishl X0.here hx rfl (hb hby at_22) rfl ?_
                show Steps p.tables e below (s₁.setTop (mkF m 23 #[.val (.int p1), .val (.int p2), .val (.int (5 : Int32)), .unset, .unset, .unset, .unset, .unset] [(.int ((1 : Int32) <<< ((20 : Int32) &&& 31)))])) _
                refine XS.iconst X0.here hx rfl (hb hby at_23) ?_
                show Steps p.tables e below (s₁.setTop (mkF m 24 #[.val (.int p1), .val (.int p2), .val (.int (5 : Int32)), .unset, .unset, .unset, .unset, .unset] [(.int (1 : Int32)), (.int ((1 : Int32) <<< ((20 : Int32) &&& 31)))])) _
                refine XS.isub X0.here hx rfl (hb hby at_24) rfl ?_
                show Steps p.tables e below (s₁.setTop (mkF m 25 #[.val (.int p1), .val (.int p2), .val (.int (5 : Int32)), .unset, .unset, .unset, .unset, .unset] [(.int (((1 : Int32) <<< ((20 : Int32) &&& 31)) - (1 : Int32)))])) _
                refine XS.istoreN X0.here hx rfl (hb hby at_25) rfl (l' := #[.val (.int p1), .val (.int p2), .val (.int (5 : Int32)), .val (.int (((1 : Int32) <<< ((20 : Int32) &&& 31)) - (1 : Int32))), .unset, .unset, .unset, .unset]) rfl ?_
                show Steps p.tables e below (s₁.setTop (mkF m 26 #[.val (.int p1), .val (.int p2), .val (.int (5 : Int32)), .val (.int (((1 : Int32) <<< ((20 : Int32) &&& 31)) - (1 : Int32))), .unset, .unset, .unset, .unset] [])) _
                refine XS.iloadN X0.here hx rfl (hb hby at_26) rfl ?_
                show Steps p.tables e below (s₁.setTop (mkF m 27 #[.val (.int p1), .val (.int p2), .val (.int (5 : Int32)), .val (.int (((1 : Int32) <<< ((20 : Int32) &&& 31)) - (1 : Int32))), .unset, .unset, .unset, .unset] [(.int p1)])) _
                refine X0.ldcInt hx hown (mvT hZ (hw _ (List.mem_of_getElem? (i := 1) rfl))) (g := (mkF m 27 #[.val (.int p1), .val (.int p2), .val (.int (5 : Int32)), .val (.int (((1 : Int32) <<< ((20 : Int32) &&& 31)) - (1 : Int32))), .unset, .unset, .unset, .unset] [(.int p1)])) rfl (hb hby at_27) _ ?_
                show Steps p.tables e below (s₁.setTop (mkF m 29 #[.val (.int p1), .val (.int p2), .val (.int (5 : Int32)), .val (.int (((1 : Int32) <<< ((20 : Int32) &&& 31)) - (1 : Int32))), .unset, .unset, .unset, .unset] [(.int (286331153 : Int32)), (.int p1)])) _
                refine XS.iloadN X0.here hx rfl (hb hby at_29) rfl ?_
                show Steps p.tables e below (s₁.setTop (mkF m 30 #[.val (.int p1), .val (.int p2), .val (.int (5 : Int32)), .val (.int (((1 : Int32) <<< ((20 : Int32) &&& 31)) - (1 : Int32))), .unset, .unset, .unset, .unset] [(.int (((1 : Int32) <<< ((20 : Int32) &&& 31)) - (1 : Int32))), (.int (286331153 : Int32)), (.int p1)])) _
                refine XS.iand X0.here hx rfl (hb hby at_30) rfl ?_
                show Steps p.tables e below (s₁.setTop (mkF m 31 #[.val (.int p1), .val (.int p2), .val (.int (5 : Int32)), .val (.int (((1 : Int32) <<< ((20 : Int32) &&& 31)) - (1 : Int32))), .unset, .unset, .unset, .unset] [(.int ((286331153 : Int32) &&& (((1 : Int32) <<< ((20 : Int32) &&& 31)) - (1 : Int32)))), (.int p1)])) _
                refine XS.ior X0.here hx rfl (hb hby at_31) rfl ?_
                show Steps p.tables e below (s₁.setTop (mkF m 32 #[.val (.int p1), .val (.int p2), .val (.int (5 : Int32)), .val (.int (((1 : Int32) <<< ((20 : Int32) &&& 31)) - (1 : Int32))), .unset, .unset, .unset, .unset] [(.int (p1 ||| ((286331153 : Int32) &&& (((1 : Int32) <<< ((20 : Int32) &&& 31)) - (1 : Int32)))))])) _
                refine XS.istore X0.here hx rfl (hb hby at_32) rfl (l' := #[.val (.int p1), .val (.int p2), .val (.int (5 : Int32)), .val (.int (((1 : Int32) <<< ((20 : Int32) &&& 31)) - (1 : Int32))), .val (.int (p1 ||| ((286331153 : Int32) &&& (((1 : Int32) <<< ((20 : Int32) &&& 31)) - (1 : Int32))))), .unset, .unset, .unset]) rfl ?_
                show Steps p.tables e below (s₁.setTop (mkF m 34 #[.val (.int p1), .val (.int p2), .val (.int (5 : Int32)), .val (.int (((1 : Int32) <<< ((20 : Int32) &&& 31)) - (1 : Int32))), .val (.int (p1 ||| ((286331153 : Int32) &&& (((1 : Int32) <<< ((20 : Int32) &&& 31)) - (1 : Int32))))), .unset, .unset, .unset] [])) _
                refine XS.iloadN X0.here hx rfl (hb hby at_34) rfl ?_
                show Steps p.tables e below (s₁.setTop (mkF m 35 #[.val (.int p1), .val (.int p2), .val (.int (5 : Int32)), .val (.int (((1 : Int32) <<< ((20 : Int32) &&& 31)) - (1 : Int32))), .val (.int (p1 ||| ((286331153 : Int32) &&& (((1 : Int32) <<< ((20 : Int32) &&& 31)) - (1 : Int32))))), .unset, .unset, .unset] [(.int (5 : Int32))])) _
                refine XS.bipush X0.here hx rfl (hb hby at_35) ?_
                show Steps p.tables e below (s₁.setTop (mkF m 37 #[.val (.int p1), .val (.int p2), .val (.int (5 : Int32)), .val (.int (((1 : Int32) <<< ((20 : Int32) &&& 31)) - (1 : Int32))), .val (.int (p1 ||| ((286331153 : Int32) &&& (((1 : Int32) <<< ((20 : Int32) &&& 31)) - (1 : Int32))))), .unset, .unset, .unset] [(.int (8 : Int32)), (.int (5 : Int32))])) _
                refine XS.icmpYes X0.here hx rfl (pc0 := 37) (pc' := 45) rfl (hb hby at_37) rfl (feq (by decide : ¬ ((5 : Int32) = (8 : Int32)))).2 (by decide) (by decide) ?_
                show Steps p.tables e below (s₁.setTop (mkF m 45 #[.val (.int p1), .val (.int p2), .val (.int (5 : Int32)), .val (.int (((1 : Int32) <<< ((20 : Int32) &&& 31)) - (1 : Int32))), .val (.int (p1 ||| ((286331153 : Int32) &&& (((1 : Int32) <<< ((20 : Int32) &&& 31)) - (1 : Int32))))), .unset, .unset, .unset] [])) _
                refine XS.iload X0.here hx rfl (hb hby at_45) rfl ?_
                show Steps p.tables e below (s₁.setTop (mkF m 47 #[.val (.int p1), .val (.int p2), .val (.int (5 : Int32)), .val (.int (((1 : Int32) <<< ((20 : Int32) &&& 31)) - (1 : Int32))), .val (.int (p1 ||| ((286331153 : Int32) &&& (((1 : Int32) <<< ((20 : Int32) &&& 31)) - (1 : Int32))))), .unset, .unset, .unset] [(.int (p1 ||| ((286331153 : Int32) &&& (((1 : Int32) <<< ((20 : Int32) &&& 31)) - (1 : Int32)))))])) _
                refine XS.bipush X0.here hx rfl (hb hby at_47) ?_
                show Steps p.tables e below (s₁.setTop (mkF m 49 #[.val (.int p1), .val (.int p2), .val (.int (5 : Int32)), .val (.int (((1 : Int32) <<< ((20 : Int32) &&& 31)) - (1 : Int32))), .val (.int (p1 ||| ((286331153 : Int32) &&& (((1 : Int32) <<< ((20 : Int32) &&& 31)) - (1 : Int32))))), .unset, .unset, .unset] [(.int (15 : Int32)), (.int (p1 ||| ((286331153 : Int32) &&& (((1 : Int32) <<< ((20 : Int32) &&& 31)) - (1 : Int32)))))])) _
                refine XS.iconst X0.here hx rfl (hb hby at_49) ?_
                show Steps p.tables e below (s₁.setTop (mkF m 50 #[.val (.int p1), .val (.int p2), .val (.int (5 : Int32)), .val (.int (((1 : Int32) <<< ((20 : Int32) &&& 31)) - (1 : Int32))), .val (.int (p1 ||| ((286331153 : Int32) &&& (((1 : Int32) <<< ((20 : Int32) &&& 31)) - (1 : Int32))))), .unset, .unset, .unset] [(.int (4 : Int32)), (.int (15 : Int32)), (.int (p1 ||| ((286331153 : Int32) &&& (((1 : Int32) <<< ((20 : Int32) &&& 31)) - (1 : Int32)))))])) _
                refine XS.iloadN X0.here hx rfl (hb hby at_50) rfl ?_
                show Steps p.tables e below (s₁.setTop (mkF m 51 #[.val (.int p1), .val (.int p2), .val (.int (5 : Int32)), .val (.int (((1 : Int32) <<< ((20 : Int32) &&& 31)) - (1 : Int32))), .val (.int (p1 ||| ((286331153 : Int32) &&& (((1 : Int32) <<< ((20 : Int32) &&& 31)) - (1 : Int32))))), .unset, .unset, .unset] [(.int (5 : Int32)), (.int (4 : Int32)), (.int (15 : Int32)), (.int (p1 ||| ((286331153 : Int32) &&& (((1 : Int32) <<< ((20 : Int32) &&& 31)) - (1 : Int32)))))])) _
                refine XS.imul X0.here hx rfl (hb hby at_51) rfl ?_
                show Steps p.tables e below (s₁.setTop (mkF m 52 #[.val (.int p1), .val (.int p2), .val (.int (5 : Int32)), .val (.int (((1 : Int32) <<< ((20 : Int32) &&& 31)) - (1 : Int32))), .val (.int (p1 ||| ((286331153 : Int32) &&& (((1 : Int32) <<< ((20 : Int32) &&& 31)) - (1 : Int32))))), .unset, .unset, .unset] [(.int (20 : Int32)), (.int (15 : Int32)), (.int (p1 ||| ((286331153 : Int32) &&& (((1 : Int32) <<< ((20 : Int32) &&& 31)) - (1 : Int32)))))])) _
                refine XS.ishl X0.here hx rfl (hb hby at_52) rfl ?_
                show Steps p.tables e below (s₁.setTop (mkF m 53 #[.val (.int p1), .val (.int p2), .val (.int (5 : Int32)), .val (.int (((1 : Int32) <<< ((20 : Int32) &&& 31)) - (1 : Int32))), .val (.int (p1 ||| ((286331153 : Int32) &&& (((1 : Int32) <<< ((20 : Int32) &&& 31)) - (1 : Int32))))), .unset, .unset, .unset] [(.int ((15 : Int32) <<< ((20 : Int32) &&& 31))), (.int (p1 ||| ((286331153 : Int32) &&& (((1 : Int32) <<< ((20 : Int32) &&& 31)) - (1 : Int32)))))])) _
                refine XS.iconst X0.here hx rfl (hb hby at_53) ?_
                show Steps p.tables e below (s₁.setTop (mkF m 54 #[.val (.int p1), .val (.int p2), .val (.int (5 : Int32)), .val (.int (((1 : Int32) <<< ((20 : Int32) &&& 31)) - (1 : Int32))), .val (.int (p1 ||| ((286331153 : Int32) &&& (((1 : Int32) <<< ((20 : Int32) &&& 31)) - (1 : Int32))))), .unset, .unset, .unset] [(.int (-1 : Int32)), (.int ((15 : Int32) <<< ((20 : Int32) &&& 31))), (.int (p1 ||| ((286331153 : Int32) &&& (((1 : Int32) <<< ((20 : Int32) &&& 31)) - (1 : Int32)))))])) _
                refine XS.ixor X0.here hx rfl (hb hby at_54) rfl ?_
                show Steps p.tables e below (s₁.setTop (mkF m 55 #[.val (.int p1), .val (.int p2), .val (.int (5 : Int32)), .val (.int (((1 : Int32) <<< ((20 : Int32) &&& 31)) - (1 : Int32))), .val (.int (p1 ||| ((286331153 : Int32) &&& (((1 : Int32) <<< ((20 : Int32) &&& 31)) - (1 : Int32))))), .unset, .unset, .unset] [(.int (((15 : Int32) <<< ((20 : Int32) &&& 31)) ^^^ (-1 : Int32))), (.int (p1 ||| ((286331153 : Int32) &&& (((1 : Int32) <<< ((20 : Int32) &&& 31)) - (1 : Int32)))))])) _
                refine XS.iand X0.here hx rfl (hb hby at_55) rfl ?_
                show Steps p.tables e below (s₁.setTop (mkF m 56 #[.val (.int p1), .val (.int p2), .val (.int (5 : Int32)), .val (.int (((1 : Int32) <<< ((20 : Int32) &&& 31)) - (1 : Int32))), .val (.int (p1 ||| ((286331153 : Int32) &&& (((1 : Int32) <<< ((20 : Int32) &&& 31)) - (1 : Int32))))), .unset, .unset, .unset] [(.int ((p1 ||| ((286331153 : Int32) &&& (((1 : Int32) <<< ((20 : Int32) &&& 31)) - (1 : Int32)))) &&& (((15 : Int32) <<< ((20 : Int32) &&& 31)) ^^^ (-1 : Int32))))])) _
                refine XS.istore X0.here hx rfl (hb hby at_56) rfl (l' := #[.val (.int p1), .val (.int p2), .val (.int (5 : Int32)), .val (.int (((1 : Int32) <<< ((20 : Int32) &&& 31)) - (1 : Int32))), .val (.int (p1 ||| ((286331153 : Int32) &&& (((1 : Int32) <<< ((20 : Int32) &&& 31)) - (1 : Int32))))), .val (.int ((p1 ||| ((286331153 : Int32) &&& (((1 : Int32) <<< ((20 : Int32) &&& 31)) - (1 : Int32)))) &&& (((15 : Int32) <<< ((20 : Int32) &&& 31)) ^^^ (-1 : Int32)))), .unset, .unset]) rfl ?_
                show Steps p.tables e below (s₁.setTop (mkF m 58 #[.val (.int p1), .val (.int p2), .val (.int (5 : Int32)), .val (.int (((1 : Int32) <<< ((20 : Int32) &&& 31)) - (1 : Int32))), .val (.int (p1 ||| ((286331153 : Int32) &&& (((1 : Int32) <<< ((20 : Int32) &&& 31)) - (1 : Int32))))), .val (.int ((p1 ||| ((286331153 : Int32) &&& (((1 : Int32) <<< ((20 : Int32) &&& 31)) - (1 : Int32)))) &&& (((15 : Int32) <<< ((20 : Int32) &&& 31)) ^^^ (-1 : Int32)))), .unset, .unset] [])) _
                refine XS.iloadN X0.here hx rfl (hb hby at_58) rfl ?_
                show Steps p.tables e below (s₁.setTop (mkF m 59 #[.val (.int p1), .val (.int p2), .val (.int (5 : Int32)), .val (.int (((1 : Int32) <<< ((20 : Int32) &&& 31)) - (1 : Int32))), .val (.int (p1 ||| ((286331153 : Int32) &&& (((1 : Int32) <<< ((20 : Int32) &&& 31)) - (1 : Int32))))), .val (.int ((p1 ||| ((286331153 : Int32) &&& (((1 : Int32) <<< ((20 : Int32) &&& 31)) - (1 : Int32)))) &&& (((15 : Int32) <<< ((20 : Int32) &&& 31)) ^^^ (-1 : Int32)))), .unset, .unset] [(.int p1)])) _
                refine st63 _ ?_
                show Steps p.tables e below (T63.setTop (mkF m 62 #[.val (.int p1), .val (.int p2), .val (.int (5 : Int32)), .val (.int (((1 : Int32) <<< ((20 : Int32) &&& 31)) - (1 : Int32))), .val (.int (p1 ||| ((286331153 : Int32) &&& (((1 : Int32) <<< ((20 : Int32) &&& 31)) - (1 : Int32))))), .val (.int ((p1 ||| ((286331153 : Int32) &&& (((1 : Int32) <<< ((20 : Int32) &&& 31)) - (1 : Int32)))) &&& (((15 : Int32) <<< ((20 : Int32) &&& 31)) ^^^ (-1 : Int32)))), .unset, .unset] [(.int (own_f1 p1))])) _
                refine XS.iloadN X63.here hx rfl (hb hby at_62) rfl ?_
                show Steps p.tables e below (T63.setTop (mkF m 63 #[.val (.int p1), .val (.int p2), .val (.int (5 : Int32)), .val (.int (((1 : Int32) <<< ((20 : Int32) &&& 31)) - (1 : Int32))), .val (.int (p1 ||| ((286331153 : Int32) &&& (((1 : Int32) <<< ((20 : Int32) &&& 31)) - (1 : Int32))))), .val (.int ((p1 ||| ((286331153 : Int32) &&& (((1 : Int32) <<< ((20 : Int32) &&& 31)) - (1 : Int32)))) &&& (((15 : Int32) <<< ((20 : Int32) &&& 31)) ^^^ (-1 : Int32)))), .unset, .unset] [(.int p1), (.int (own_f1 p1))])) _
                refine st65 _ ?_
                exact kt
              by_cases hc22 : (own_f1 p1) = (own_f2 p1)
              ·
                obtain ⟨v68, _, ⟨T68, L68, k68, n68⟩, -, X68, ⟨Lc68, hQ68, l68, y68, z68⟩, st68⟩ := Jvm.LawKit.callS X65 hx (y := (⟨"com/example/kerb/kerb/txn/SoleLocks", "length", "(I)I"⟩ : MethodName)) hown (mvT hZ (hw _ (List.mem_of_getElem? (i := 2) rfl))) (mvT hZ (hw _ (List.mem_of_getElem? (i := 3) rfl))) (mvT hZ (hw _ (List.mem_of_getElem? (i := 4) rfl))) (mvT hZ (hw _ (List.mem_of_getElem? (i := 5) rfl))) (by decide) (backOf (W := 0) (own_rm1 l Z a0 hw [] ((p1 ||| ((286331153 : Int32) &&& (((1 : Int32) <<< ((20 : Int32) &&& 31)) - (1 : Int32)))) &&& (((15 : Int32) <<< ((20 : Int32) &&& 31)) ^^^ (-1 : Int32))) h0 n0 Z0) hZ (hw _ (List.mem_of_getElem? (i := 5) rfl)) (hw _ (List.mem_of_getElem? (i := 4) rfl)) (by decide) (by decide)) (g := (mkF m 78 #[.val (.int p1), .val (.int p2), .val (.int (5 : Int32)), .val (.int (((1 : Int32) <<< ((20 : Int32) &&& 31)) - (1 : Int32))), .val (.int (p1 ||| ((286331153 : Int32) &&& (((1 : Int32) <<< ((20 : Int32) &&& 31)) - (1 : Int32))))), .val (.int ((p1 ||| ((286331153 : Int32) &&& (((1 : Int32) <<< ((20 : Int32) &&& 31)) - (1 : Int32)))) &&& (((15 : Int32) <<< ((20 : Int32) &&& 31)) ^^^ (-1 : Int32)))), .val (.int (1 : Int32)), .unset] [(.int ((p1 ||| ((286331153 : Int32) &&& (((1 : Int32) <<< ((20 : Int32) &&& 31)) - (1 : Int32)))) &&& (((15 : Int32) <<< ((20 : Int32) &&& 31)) ^^^ (-1 : Int32))))])) rfl (by rw [hml]; rfl) (argsL := [(.int ((p1 ||| ((286331153 : Int32) &&& (((1 : Int32) <<< ((20 : Int32) &&& 31)) - (1 : Int32)))) &&& (((15 : Int32) <<< ((20 : Int32) &&& 31)) ^^^ (-1 : Int32))))]) (rest := []) (lenOf own_pd69 rfl) rfl (by show 2 * 0 + _ ≤ _; exact Nat.le_of_eq rfl) (hb hby at_78) (fun _ _ => ⟨rfl, e65, (by decide : 0 + 0 ≤ _), (by decide : 0 + 0 ≤ _)⟩)
                dsimp only [Pt.U, Pt.locs, Pt.cells, Pt.slots] at X68 l68 y68 z68 st68 hQ68
                subst l68 y68 z68
                obtain ⟨rfl, N68q, e68⟩ := hQ68
                have N69 := Fr.app N66 N68q
                have k70 : ∀ t, Steps p.tables e below (T68.setTop (mkF m 82 #[.val (.int p1), .val (.int p2), .val (.int (5 : Int32)), .val (.int (((1 : Int32) <<< ((20 : Int32) &&& 31)) - (1 : Int32))), .val (.int (p1 ||| ((286331153 : Int32) &&& (((1 : Int32) <<< ((20 : Int32) &&& 31)) - (1 : Int32))))), .val (.int ((p1 ||| ((286331153 : Int32) &&& (((1 : Int32) <<< ((20 : Int32) &&& 31)) - (1 : Int32)))) &&& (((15 : Int32) <<< ((20 : Int32) &&& 31)) ^^^ (-1 : Int32)))), .val (.int (1 : Int32)), .unset] [(.int (5 : Int32)), (.int (own_f1 ((p1 ||| ((286331153 : Int32) &&& (((1 : Int32) <<< ((20 : Int32) &&& 31)) - (1 : Int32)))) &&& (((15 : Int32) <<< ((20 : Int32) &&& 31)) ^^^ (-1 : Int32)))))])) t → Steps p.tables e below (s₁.setTop (entryFrame m #[(.int p1), (.int p2)] maxLocals)) t := by
                  intro t kt
                  refine k67 t ?_
                  show Steps p.tables e below (T65.setTop (mkF m 66 #[.val (.int p1), .val (.int p2), .val (.int (5 : Int32)), .val (.int (((1 : Int32) <<< ((20 : Int32) &&& 31)) - (1 : Int32))), .val (.int (p1 ||| ((286331153 : Int32) &&& (((1 : Int32) <<< ((20 : Int32) &&& 31)) - (1 : Int32))))), .val (.int ((p1 ||| ((286331153 : Int32) &&& (((1 : Int32) <<< ((20 : Int32) &&& 31)) - (1 : Int32)))) &&& (((15 : Int32) <<< ((20 : Int32) &&& 31)) ^^^ (-1 : Int32)))), .unset, .unset] [(.int (own_f2 p1)), (.int (own_f1 p1))])) _
                  refine XS.icmpNo X65.here hx rfl (hb hby at_66) rfl (teq hc22).2 ?_
                  show Steps p.tables e below (T65.setTop (mkF m 69 #[.val (.int p1), .val (.int p2), .val (.int (5 : Int32)), .val (.int (((1 : Int32) <<< ((20 : Int32) &&& 31)) - (1 : Int32))), .val (.int (p1 ||| ((286331153 : Int32) &&& (((1 : Int32) <<< ((20 : Int32) &&& 31)) - (1 : Int32))))), .val (.int ((p1 ||| ((286331153 : Int32) &&& (((1 : Int32) <<< ((20 : Int32) &&& 31)) - (1 : Int32)))) &&& (((15 : Int32) <<< ((20 : Int32) &&& 31)) ^^^ (-1 : Int32)))), .unset, .unset] [])) _
                  refine XS.iconst X65.here hx rfl (hb hby at_69) ?_
                  show Steps p.tables e below (T65.setTop (mkF m 70 #[.val (.int p1), .val (.int p2), .val (.int (5 : Int32)), .val (.int (((1 : Int32) <<< ((20 : Int32) &&& 31)) - (1 : Int32))), .val (.int (p1 ||| ((286331153 : Int32) &&& (((1 : Int32) <<< ((20 : Int32) &&& 31)) - (1 : Int32))))), .val (.int ((p1 ||| ((286331153 : Int32) &&& (((1 : Int32) <<< ((20 : Int32) &&& 31)) - (1 : Int32)))) &&& (((15 : Int32) <<< ((20 : Int32) &&& 31)) ^^^ (-1 : Int32)))), .unset, .unset] [(.int (1 : Int32))])) _
                  refine XS.goto X65.here hx rfl (pc0 := 70) (pc' := 74) rfl (hb hby at_70) (by decide) (by decide) ?_
                  show Steps p.tables e below (T65.setTop (mkF m 74 #[.val (.int p1), .val (.int p2), .val (.int (5 : Int32)), .val (.int (((1 : Int32) <<< ((20 : Int32) &&& 31)) - (1 : Int32))), .val (.int (p1 ||| ((286331153 : Int32) &&& (((1 : Int32) <<< ((20 : Int32) &&& 31)) - (1 : Int32))))), .val (.int ((p1 ||| ((286331153 : Int32) &&& (((1 : Int32) <<< ((20 : Int32) &&& 31)) - (1 : Int32)))) &&& (((15 : Int32) <<< ((20 : Int32) &&& 31)) ^^^ (-1 : Int32)))), .unset, .unset] [(.int (1 : Int32))])) _
                  refine XS.istore X65.here hx rfl (hb hby at_74) rfl (l' := #[.val (.int p1), .val (.int p2), .val (.int (5 : Int32)), .val (.int (((1 : Int32) <<< ((20 : Int32) &&& 31)) - (1 : Int32))), .val (.int (p1 ||| ((286331153 : Int32) &&& (((1 : Int32) <<< ((20 : Int32) &&& 31)) - (1 : Int32))))), .val (.int ((p1 ||| ((286331153 : Int32) &&& (((1 : Int32) <<< ((20 : Int32) &&& 31)) - (1 : Int32)))) &&& (((15 : Int32) <<< ((20 : Int32) &&& 31)) ^^^ (-1 : Int32)))), .val (.int (1 : Int32)), .unset]) rfl ?_
                  show Steps p.tables e below (T65.setTop (mkF m 76 #[.val (.int p1), .val (.int p2), .val (.int (5 : Int32)), .val (.int (((1 : Int32) <<< ((20 : Int32) &&& 31)) - (1 : Int32))), .val (.int (p1 ||| ((286331153 : Int32) &&& (((1 : Int32) <<< ((20 : Int32) &&& 31)) - (1 : Int32))))), .val (.int ((p1 ||| ((286331153 : Int32) &&& (((1 : Int32) <<< ((20 : Int32) &&& 31)) - (1 : Int32)))) &&& (((15 : Int32) <<< ((20 : Int32) &&& 31)) ^^^ (-1 : Int32)))), .val (.int (1 : Int32)), .unset] [])) _
                  refine XS.iload X65.here hx rfl (hb hby at_76) rfl ?_
                  show Steps p.tables e below (T65.setTop (mkF m 78 #[.val (.int p1), .val (.int p2), .val (.int (5 : Int32)), .val (.int (((1 : Int32) <<< ((20 : Int32) &&& 31)) - (1 : Int32))), .val (.int (p1 ||| ((286331153 : Int32) &&& (((1 : Int32) <<< ((20 : Int32) &&& 31)) - (1 : Int32))))), .val (.int ((p1 ||| ((286331153 : Int32) &&& (((1 : Int32) <<< ((20 : Int32) &&& 31)) - (1 : Int32)))) &&& (((15 : Int32) <<< ((20 : Int32) &&& 31)) ^^^ (-1 : Int32)))), .val (.int (1 : Int32)), .unset] [(.int ((p1 ||| ((286331153 : Int32) &&& (((1 : Int32) <<< ((20 : Int32) &&& 31)) - (1 : Int32)))) &&& (((15 : Int32) <<< ((20 : Int32) &&& 31)) ^^^ (-1 : Int32))))])) _
                  refine st68 _ ?_
                  show Steps p.tables e below (T68.setTop (mkF m 81 #[.val (.int p1), .val (.int p2), .val (.int (5 : Int32)), .val (.int (((1 : Int32) <<< ((20 : Int32) &&& 31)) - (1 : Int32))), .val (.int (p1 ||| ((286331153 : Int32) &&& (((1 : Int32) <<< ((20 : Int32) &&& 31)) - (1 : Int32))))), .val (.int ((p1 ||| ((286331153 : Int32) &&& (((1 : Int32) <<< ((20 : Int32) &&& 31)) - (1 : Int32)))) &&& (((15 : Int32) <<< ((20 : Int32) &&& 31)) ^^^ (-1 : Int32)))), .val (.int (1 : Int32)), .unset] [(.int (own_f1 ((p1 ||| ((286331153 : Int32) &&& (((1 : Int32) <<< ((20 : Int32) &&& 31)) - (1 : Int32)))) &&& (((15 : Int32) <<< ((20 : Int32) &&& 31)) ^^^ (-1 : Int32)))))])) _
                  refine XS.iloadN X68.here hx rfl (hb hby at_81) rfl ?_
                  exact kt
                by_cases hc23 : (own_f1 ((p1 ||| ((286331153 : Int32) &&& (((1 : Int32) <<< ((20 : Int32) &&& 31)) - (1 : Int32)))) &&& (((15 : Int32) <<< ((20 : Int32) &&& 31)) ^^^ (-1 : Int32)))) = (5 : Int32)
                ·
                  obtain ⟨fs, hr, hrun, hended, hW, hsame⟩ := X68.leave (v := some (.int (1 : Int32))) (fun h => by rw [Bd.returns] at h; cases h)
                  refine ⟨_, _, k70 _ ?_, hrun, hended, _, _, rfl, ?_, ⟨_, rfl⟩, hW, hsame.mono (by decide) (by decide)⟩
                  · show Steps p.tables e below (T68.setTop (mkF m 82 #[.val (.int p1), .val (.int p2), .val (.int (5 : Int32)), .val (.int (((1 : Int32) <<< ((20 : Int32) &&& 31)) - (1 : Int32))), .val (.int (p1 ||| ((286331153 : Int32) &&& (((1 : Int32) <<< ((20 : Int32) &&& 31)) - (1 : Int32))))), .val (.int ((p1 ||| ((286331153 : Int32) &&& (((1 : Int32) <<< ((20 : Int32) &&& 31)) - (1 : Int32)))) &&& (((15 : Int32) <<< ((20 : Int32) &&& 31)) ^^^ (-1 : Int32)))), .val (.int (1 : Int32)), .unset] [(.int (5 : Int32)), (.int (own_f1 ((p1 ||| ((286331153 : Int32) &&& (((1 : Int32) <<< ((20 : Int32) &&& 31)) - (1 : Int32)))) &&& (((15 : Int32) <<< ((20 : Int32) &&& 31)) ^^^ (-1 : Int32)))))])) _
                    refine XS.icmpNo X68.here hx rfl (hb hby at_82) rfl (teq hc23).2 ?_
                    show Steps p.tables e below (T68.setTop (mkF m 85 #[.val (.int p1), .val (.int p2), .val (.int (5 : Int32)), .val (.int (((1 : Int32) <<< ((20 : Int32) &&& 31)) - (1 : Int32))), .val (.int (p1 ||| ((286331153 : Int32) &&& (((1 : Int32) <<< ((20 : Int32) &&& 31)) - (1 : Int32))))), .val (.int ((p1 ||| ((286331153 : Int32) &&& (((1 : Int32) <<< ((20 : Int32) &&& 31)) - (1 : Int32)))) &&& (((15 : Int32) <<< ((20 : Int32) &&& 31)) ^^^ (-1 : Int32)))), .val (.int (1 : Int32)), .unset] [])) _
                    refine XS.iconst X68.here hx rfl (hb hby at_85) ?_
                    show Steps p.tables e below (T68.setTop (mkF m 86 #[.val (.int p1), .val (.int p2), .val (.int (5 : Int32)), .val (.int (((1 : Int32) <<< ((20 : Int32) &&& 31)) - (1 : Int32))), .val (.int (p1 ||| ((286331153 : Int32) &&& (((1 : Int32) <<< ((20 : Int32) &&& 31)) - (1 : Int32))))), .val (.int ((p1 ||| ((286331153 : Int32) &&& (((1 : Int32) <<< ((20 : Int32) &&& 31)) - (1 : Int32)))) &&& (((15 : Int32) <<< ((20 : Int32) &&& 31)) ^^^ (-1 : Int32)))), .val (.int (1 : Int32)), .unset] [(.int (1 : Int32))])) _
                    refine XS.goto X68.here hx rfl (pc0 := 86) (pc' := 90) rfl (hb hby at_86) (by decide) (by decide) ?_
                    show Steps p.tables e below (T68.setTop (mkF m 90 #[.val (.int p1), .val (.int p2), .val (.int (5 : Int32)), .val (.int (((1 : Int32) <<< ((20 : Int32) &&& 31)) - (1 : Int32))), .val (.int (p1 ||| ((286331153 : Int32) &&& (((1 : Int32) <<< ((20 : Int32) &&& 31)) - (1 : Int32))))), .val (.int ((p1 ||| ((286331153 : Int32) &&& (((1 : Int32) <<< ((20 : Int32) &&& 31)) - (1 : Int32)))) &&& (((15 : Int32) <<< ((20 : Int32) &&& 31)) ^^^ (-1 : Int32)))), .val (.int (1 : Int32)), .unset] [(.int (1 : Int32))])) _
                    refine XS.istore X68.here hx rfl (hb hby at_90) rfl (l' := #[.val (.int p1), .val (.int p2), .val (.int (5 : Int32)), .val (.int (((1 : Int32) <<< ((20 : Int32) &&& 31)) - (1 : Int32))), .val (.int (p1 ||| ((286331153 : Int32) &&& (((1 : Int32) <<< ((20 : Int32) &&& 31)) - (1 : Int32))))), .val (.int ((p1 ||| ((286331153 : Int32) &&& (((1 : Int32) <<< ((20 : Int32) &&& 31)) - (1 : Int32)))) &&& (((15 : Int32) <<< ((20 : Int32) &&& 31)) ^^^ (-1 : Int32)))), .val (.int (1 : Int32)), .val (.int (1 : Int32))]) rfl ?_
                    show Steps p.tables e below (T68.setTop (mkF m 92 #[.val (.int p1), .val (.int p2), .val (.int (5 : Int32)), .val (.int (((1 : Int32) <<< ((20 : Int32) &&& 31)) - (1 : Int32))), .val (.int (p1 ||| ((286331153 : Int32) &&& (((1 : Int32) <<< ((20 : Int32) &&& 31)) - (1 : Int32))))), .val (.int ((p1 ||| ((286331153 : Int32) &&& (((1 : Int32) <<< ((20 : Int32) &&& 31)) - (1 : Int32)))) &&& (((15 : Int32) <<< ((20 : Int32) &&& 31)) ^^^ (-1 : Int32)))), .val (.int (1 : Int32)), .val (.int (1 : Int32))] [])) _
                    refine XS.iload X68.here hx rfl (hb hby at_92) rfl ?_
                    show Steps p.tables e below (T68.setTop (mkF m 94 #[.val (.int p1), .val (.int p2), .val (.int (5 : Int32)), .val (.int (((1 : Int32) <<< ((20 : Int32) &&& 31)) - (1 : Int32))), .val (.int (p1 ||| ((286331153 : Int32) &&& (((1 : Int32) <<< ((20 : Int32) &&& 31)) - (1 : Int32))))), .val (.int ((p1 ||| ((286331153 : Int32) &&& (((1 : Int32) <<< ((20 : Int32) &&& 31)) - (1 : Int32)))) &&& (((15 : Int32) <<< ((20 : Int32) &&& 31)) ^^^ (-1 : Int32)))), .val (.int (1 : Int32)), .val (.int (1 : Int32))] [(.int (1 : Int32))])) _
                    refine XS.ifNo X68.here hx rfl (hb hby at_94) rfl ((if0 _ _).trans (feq (by decide : ¬ ((1 : Int32) = (0 : Int32)))).1) ?_
                    show Steps p.tables e below (T68.setTop (mkF m 97 #[.val (.int p1), .val (.int p2), .val (.int (5 : Int32)), .val (.int (((1 : Int32) <<< ((20 : Int32) &&& 31)) - (1 : Int32))), .val (.int (p1 ||| ((286331153 : Int32) &&& (((1 : Int32) <<< ((20 : Int32) &&& 31)) - (1 : Int32))))), .val (.int ((p1 ||| ((286331153 : Int32) &&& (((1 : Int32) <<< ((20 : Int32) &&& 31)) - (1 : Int32)))) &&& (((15 : Int32) <<< ((20 : Int32) &&& 31)) ^^^ (-1 : Int32)))), .val (.int (1 : Int32)), .val (.int (1 : Int32))] [])) _
                    refine XS.iload X68.here hx rfl (hb hby at_97) rfl ?_
                    show Steps p.tables e below (T68.setTop (mkF m 99 #[.val (.int p1), .val (.int p2), .val (.int (5 : Int32)), .val (.int (((1 : Int32) <<< ((20 : Int32) &&& 31)) - (1 : Int32))), .val (.int (p1 ||| ((286331153 : Int32) &&& (((1 : Int32) <<< ((20 : Int32) &&& 31)) - (1 : Int32))))), .val (.int ((p1 ||| ((286331153 : Int32) &&& (((1 : Int32) <<< ((20 : Int32) &&& 31)) - (1 : Int32)))) &&& (((15 : Int32) <<< ((20 : Int32) &&& 31)) ^^^ (-1 : Int32)))), .val (.int (1 : Int32)), .val (.int (1 : Int32))] [(.int (1 : Int32))])) _
                    refine XS.ifNo X68.here hx rfl (hb hby at_99) rfl ((if0 _ _).trans (feq (by decide : ¬ ((1 : Int32) = (0 : Int32)))).1) ?_
                    show Steps p.tables e below (T68.setTop (mkF m 102 #[.val (.int p1), .val (.int p2), .val (.int (5 : Int32)), .val (.int (((1 : Int32) <<< ((20 : Int32) &&& 31)) - (1 : Int32))), .val (.int (p1 ||| ((286331153 : Int32) &&& (((1 : Int32) <<< ((20 : Int32) &&& 31)) - (1 : Int32))))), .val (.int ((p1 ||| ((286331153 : Int32) &&& (((1 : Int32) <<< ((20 : Int32) &&& 31)) - (1 : Int32)))) &&& (((15 : Int32) <<< ((20 : Int32) &&& 31)) ^^^ (-1 : Int32)))), .val (.int (1 : Int32)), .val (.int (1 : Int32))] [])) _
                    refine XS.iconst X68.here hx rfl (hb hby at_102) ?_
                    show Steps p.tables e below (T68.setTop (mkF m 103 #[.val (.int p1), .val (.int p2), .val (.int (5 : Int32)), .val (.int (((1 : Int32) <<< ((20 : Int32) &&& 31)) - (1 : Int32))), .val (.int (p1 ||| ((286331153 : Int32) &&& (((1 : Int32) <<< ((20 : Int32) &&& 31)) - (1 : Int32))))), .val (.int ((p1 ||| ((286331153 : Int32) &&& (((1 : Int32) <<< ((20 : Int32) &&& 31)) - (1 : Int32)))) &&& (((15 : Int32) <<< ((20 : Int32) &&& 31)) ^^^ (-1 : Int32)))), .val (.int (1 : Int32)), .val (.int (1 : Int32))] [(.int (1 : Int32))])) _
                    refine XS.goto X68.here hx rfl (pc0 := 103) (pc' := 107) rfl (hb hby at_103) (by decide) (by decide) ?_
                    show Steps p.tables e below (T68.setTop (mkF m 107 #[.val (.int p1), .val (.int p2), .val (.int (5 : Int32)), .val (.int (((1 : Int32) <<< ((20 : Int32) &&& 31)) - (1 : Int32))), .val (.int (p1 ||| ((286331153 : Int32) &&& (((1 : Int32) <<< ((20 : Int32) &&& 31)) - (1 : Int32))))), .val (.int ((p1 ||| ((286331153 : Int32) &&& (((1 : Int32) <<< ((20 : Int32) &&& 31)) - (1 : Int32)))) &&& (((15 : Int32) <<< ((20 : Int32) &&& 31)) ^^^ (-1 : Int32)))), .val (.int (1 : Int32)), .val (.int (1 : Int32))] [(.int (1 : Int32))])) _
                    exact retN X68 hx (t := .boolean) Bd.returns (by simp) (hb hby at_107) hr
                  · show own_Q0 Z p1 p2 h0 n0 _ T68.heap _
                    rw [e68]
                    exact ⟨(by rw [own_f0, if_neg hc1, if_neg hc5, if_neg hc9, if_neg hc13, if_neg hc17, if_pos hc21, if_pos hc22, if_pos hc23]), N69⟩
                ·
                  obtain ⟨fs, hr, hrun, hended, hW, hsame⟩ := X68.leave (v := some (.int (0 : Int32))) (fun h => by rw [Bd.returns] at h; cases h)
                  refine ⟨_, _, k70 _ ?_, hrun, hended, _, _, rfl, ?_, ⟨_, rfl⟩, hW, hsame.mono (by decide) (by decide)⟩
                  · show Steps p.tables e below (T68.setTop (mkF m 82 #[.val (.int p1), .val (.int p2), .val (.int (5 : Int32)), .val (.int (((1 : Int32) <<< ((20 : Int32) &&& 31)) - (1 : Int32))), .val (.int (p1 ||| ((286331153 : Int32) &&& (((1 : Int32) <<< ((20 : Int32) &&& 31)) - (1 : Int32))))), .val (.int ((p1 ||| ((286331153 : Int32) &&& (((1 : Int32) <<< ((20 : Int32) &&& 31)) - (1 : Int32)))) &&& (((15 : Int32) <<< ((20 : Int32) &&& 31)) ^^^ (-1 : Int32)))), .val (.int (1 : Int32)), .unset] [(.int (5 : Int32)), (.int (own_f1 ((p1 ||| ((286331153 : Int32) &&& (((1 : Int32) <<< ((20 : Int32) &&& 31)) - (1 : Int32)))) &&& (((15 : Int32) <<< ((20 : Int32) &&& 31)) ^^^ (-1 : Int32)))))])) _
                    refine XS.icmpYes X68.here hx rfl (pc0 := 82) (pc' := 89) rfl (hb hby at_82) rfl (feq hc23).2 (by decide) (by decide) ?_
                    show Steps p.tables e below (T68.setTop (mkF m 89 #[.val (.int p1), .val (.int p2), .val (.int (5 : Int32)), .val (.int (((1 : Int32) <<< ((20 : Int32) &&& 31)) - (1 : Int32))), .val (.int (p1 ||| ((286331153 : Int32) &&& (((1 : Int32) <<< ((20 : Int32) &&& 31)) - (1 : Int32))))), .val (.int ((p1 ||| ((286331153 : Int32) &&& (((1 : Int32) <<< ((20 : Int32) &&& 31)) - (1 : Int32)))) &&& (((15 : Int32) <<< ((20 : Int32) &&& 31)) ^^^ (-1 : Int32)))), .val (.int (1 : Int32)), .unset] [])) _
                    refine XS.iconst X68.here hx rfl (hb hby at_89) ?_
                    show Steps p.tables e below (T68.setTop (mkF m 90 #[.val (.int p1), .val (.int p2), .val (.int (5 : Int32)), .val (.int (((1 : Int32) <<< ((20 : Int32) &&& 31)) - (1 : Int32))), .val (.int (p1 ||| ((286331153 : Int32) &&& (((1 : Int32) <<< ((20 : Int32) &&& 31)) - (1 : Int32))))), .val (.int ((p1 ||| ((286331153 : Int32) &&& (((1 : Int32) <<< ((20 : Int32) &&& 31)) - (1 : Int32)))) &&& (((15 : Int32) <<< ((20 : Int32) &&& 31)) ^^^ (-1 : Int32)))), .val (.int (1 : Int32)), .unset] [(.int (0 : Int32))])) _
                    refine XS.istore X68.here hx rfl (hb hby at_90) rfl (l' := #[.val (.int p1), .val (.int p2), .val (.int (5 : Int32)), .val (.int (((1 : Int32) <<< ((20 : Int32) &&& 31)) - (1 : Int32))), .val (.int (p1 ||| ((286331153 : Int32) &&& (((1 : Int32) <<< ((20 : Int32) &&& 31)) - (1 : Int32))))), .val (.int ((p1 ||| ((286331153 : Int32) &&& (((1 : Int32) <<< ((20 : Int32) &&& 31)) - (1 : Int32)))) &&& (((15 : Int32) <<< ((20 : Int32) &&& 31)) ^^^ (-1 : Int32)))), .val (.int (1 : Int32)), .val (.int (0 : Int32))]) rfl ?_
                    show Steps p.tables e below (T68.setTop (mkF m 92 #[.val (.int p1), .val (.int p2), .val (.int (5 : Int32)), .val (.int (((1 : Int32) <<< ((20 : Int32) &&& 31)) - (1 : Int32))), .val (.int (p1 ||| ((286331153 : Int32) &&& (((1 : Int32) <<< ((20 : Int32) &&& 31)) - (1 : Int32))))), .val (.int ((p1 ||| ((286331153 : Int32) &&& (((1 : Int32) <<< ((20 : Int32) &&& 31)) - (1 : Int32)))) &&& (((15 : Int32) <<< ((20 : Int32) &&& 31)) ^^^ (-1 : Int32)))), .val (.int (1 : Int32)), .val (.int (0 : Int32))] [])) _
                    refine XS.iload X68.here hx rfl (hb hby at_92) rfl ?_
                    show Steps p.tables e below (T68.setTop (mkF m 94 #[.val (.int p1), .val (.int p2), .val (.int (5 : Int32)), .val (.int (((1 : Int32) <<< ((20 : Int32) &&& 31)) - (1 : Int32))), .val (.int (p1 ||| ((286331153 : Int32) &&& (((1 : Int32) <<< ((20 : Int32) &&& 31)) - (1 : Int32))))), .val (.int ((p1 ||| ((286331153 : Int32) &&& (((1 : Int32) <<< ((20 : Int32) &&& 31)) - (1 : Int32)))) &&& (((15 : Int32) <<< ((20 : Int32) &&& 31)) ^^^ (-1 : Int32)))), .val (.int (1 : Int32)), .val (.int (0 : Int32))] [(.int (1 : Int32))])) _
                    refine XS.ifNo X68.here hx rfl (hb hby at_94) rfl ((if0 _ _).trans (feq (by decide : ¬ ((1 : Int32) = (0 : Int32)))).1) ?_
                    show Steps p.tables e below (T68.setTop (mkF m 97 #[.val (.int p1), .val (.int p2), .val (.int (5 : Int32)), .val (.int (((1 : Int32) <<< ((20 : Int32) &&& 31)) - (1 : Int32))), .val (.int (p1 ||| ((286331153 : Int32) &&& (((1 : Int32) <<< ((20 : Int32) &&& 31)) - (1 : Int32))))), .val (.int ((p1 ||| ((286331153 : Int32) &&& (((1 : Int32) <<< ((20 : Int32) &&& 31)) - (1 : Int32)))) &&& (((15 : Int32) <<< ((20 : Int32) &&& 31)) ^^^ (-1 : Int32)))), .val (.int (1 : Int32)), .val (.int (0 : Int32))] [])) _
                    refine XS.iload X68.here hx rfl (hb hby at_97) rfl ?_
                    show Steps p.tables e below (T68.setTop (mkF m 99 #[.val (.int p1), .val (.int p2), .val (.int (5 : Int32)), .val (.int (((1 : Int32) <<< ((20 : Int32) &&& 31)) - (1 : Int32))), .val (.int (p1 ||| ((286331153 : Int32) &&& (((1 : Int32) <<< ((20 : Int32) &&& 31)) - (1 : Int32))))), .val (.int ((p1 ||| ((286331153 : Int32) &&& (((1 : Int32) <<< ((20 : Int32) &&& 31)) - (1 : Int32)))) &&& (((15 : Int32) <<< ((20 : Int32) &&& 31)) ^^^ (-1 : Int32)))), .val (.int (1 : Int32)), .val (.int (0 : Int32))] [(.int (0 : Int32))])) _
                    refine XS.ifYes X68.here hx rfl (pc0 := 99) (pc' := 106) rfl (hb hby at_99) rfl ((if0 _ _).trans (teq (by decide : (0 : Int32) = (0 : Int32))).1) (by decide) (by decide) ?_
                    show Steps p.tables e below (T68.setTop (mkF m 106 #[.val (.int p1), .val (.int p2), .val (.int (5 : Int32)), .val (.int (((1 : Int32) <<< ((20 : Int32) &&& 31)) - (1 : Int32))), .val (.int (p1 ||| ((286331153 : Int32) &&& (((1 : Int32) <<< ((20 : Int32) &&& 31)) - (1 : Int32))))), .val (.int ((p1 ||| ((286331153 : Int32) &&& (((1 : Int32) <<< ((20 : Int32) &&& 31)) - (1 : Int32)))) &&& (((15 : Int32) <<< ((20 : Int32) &&& 31)) ^^^ (-1 : Int32)))), .val (.int (1 : Int32)), .val (.int (0 : Int32))] [])) _
                    refine XS.iconst X68.here hx rfl (hb hby at_106) ?_
                    show Steps p.tables e below (T68.setTop (mkF m 107 #[.val (.int p1), .val (.int p2), .val (.int (5 : Int32)), .val (.int (((1 : Int32) <<< ((20 : Int32) &&& 31)) - (1 : Int32))), .val (.int (p1 ||| ((286331153 : Int32) &&& (((1 : Int32) <<< ((20 : Int32) &&& 31)) - (1 : Int32))))), .val (.int ((p1 ||| ((286331153 : Int32) &&& (((1 : Int32) <<< ((20 : Int32) &&& 31)) - (1 : Int32)))) &&& (((15 : Int32) <<< ((20 : Int32) &&& 31)) ^^^ (-1 : Int32)))), .val (.int (1 : Int32)), .val (.int (0 : Int32))] [(.int (0 : Int32))])) _
                    exact retN X68 hx (t := .boolean) Bd.returns (by simp) (hb hby at_107) hr
                  · show own_Q0 Z p1 p2 h0 n0 _ T68.heap _
                    rw [e68]
                    exact ⟨(by rw [own_f0, if_neg hc1, if_neg hc5, if_neg hc9, if_neg hc13, if_neg hc17, if_pos hc21, if_pos hc22, if_neg hc23]), N69⟩
              ·
                obtain ⟨v71, _, ⟨T71, L71, k71, n71⟩, -, X71, ⟨Lc71, hQ71, l71, y71, z71⟩, st71⟩ := Jvm.LawKit.callS X65 hx (y := (⟨"com/example/kerb/kerb/txn/SoleLocks", "length", "(I)I"⟩ : MethodName)) hown (mvT hZ (hw _ (List.mem_of_getElem? (i := 2) rfl))) (mvT hZ (hw _ (List.mem_of_getElem? (i := 3) rfl))) (mvT hZ (hw _ (List.mem_of_getElem? (i := 4) rfl))) (mvT hZ (hw _ (List.mem_of_getElem? (i := 5) rfl))) (by decide) (backOf (W := 0) (own_rm1 l Z a0 hw [] ((p1 ||| ((286331153 : Int32) &&& (((1 : Int32) <<< ((20 : Int32) &&& 31)) - (1 : Int32)))) &&& (((15 : Int32) <<< ((20 : Int32) &&& 31)) ^^^ (-1 : Int32))) h0 n0 Z0) hZ (hw _ (List.mem_of_getElem? (i := 5) rfl)) (hw _ (List.mem_of_getElem? (i := 4) rfl)) (by decide) (by decide)) (g := (mkF m 78 #[.val (.int p1), .val (.int p2), .val (.int (5 : Int32)), .val (.int (((1 : Int32) <<< ((20 : Int32) &&& 31)) - (1 : Int32))), .val (.int (p1 ||| ((286331153 : Int32) &&& (((1 : Int32) <<< ((20 : Int32) &&& 31)) - (1 : Int32))))), .val (.int ((p1 ||| ((286331153 : Int32) &&& (((1 : Int32) <<< ((20 : Int32) &&& 31)) - (1 : Int32)))) &&& (((15 : Int32) <<< ((20 : Int32) &&& 31)) ^^^ (-1 : Int32)))), .val (.int (0 : Int32)), .unset] [(.int ((p1 ||| ((286331153 : Int32) &&& (((1 : Int32) <<< ((20 : Int32) &&& 31)) - (1 : Int32)))) &&& (((15 : Int32) <<< ((20 : Int32) &&& 31)) ^^^ (-1 : Int32))))])) rfl (by rw [hml]; rfl) (argsL := [(.int ((p1 ||| ((286331153 : Int32) &&& (((1 : Int32) <<< ((20 : Int32) &&& 31)) - (1 : Int32)))) &&& (((15 : Int32) <<< ((20 : Int32) &&& 31)) ^^^ (-1 : Int32))))]) (rest := []) (lenOf own_pd69 rfl) rfl (by show 2 * 0 + _ ≤ _; exact Nat.le_of_eq rfl) (hb hby at_78) (fun _ _ => ⟨rfl, e65, (by decide : 0 + 0 ≤ _), (by decide : 0 + 0 ≤ _)⟩)
                dsimp only [Pt.U, Pt.locs, Pt.cells, Pt.slots] at X71 l71 y71 z71 st71 hQ71
                subst l71 y71 z71
                obtain ⟨rfl, N71q, e71⟩ := hQ71
                have N72 := Fr.app N66 N71q
                have k73 : ∀ t, Steps p.tables e below (T71.setTop (mkF m 82 #[.val (.int p1), .val (.int p2), .val (.int (5 : Int32)), .val (.int (((1 : Int32) <<< ((20 : Int32) &&& 31)) - (1 : Int32))), .val (.int (p1 ||| ((286331153 : Int32) &&& (((1 : Int32) <<< ((20 : Int32) &&& 31)) - (1 : Int32))))), .val (.int ((p1 ||| ((286331153 : Int32) &&& (((1 : Int32) <<< ((20 : Int32) &&& 31)) - (1 : Int32)))) &&& (((15 : Int32) <<< ((20 : Int32) &&& 31)) ^^^ (-1 : Int32)))), .val (.int (0 : Int32)), .unset] [(.int (5 : Int32)), (.int (own_f1 ((p1 ||| ((286331153 : Int32) &&& (((1 : Int32) <<< ((20 : Int32) &&& 31)) - (1 : Int32)))) &&& (((15 : Int32) <<< ((20 : Int32) &&& 31)) ^^^ (-1 : Int32)))))])) t → Steps p.tables e below (s₁.setTop (entryFrame m #[(.int p1), (.int p2)] maxLocals)) t := by
                  intro t kt
                  refine k67 t ?_
                  show Steps p.tables e below (T65.setTop (mkF m 66 #[.val (.int p1), .val (.int p2), .val (.int (5 : Int32)), .val (.int (((1 : Int32) <<< ((20 : Int32) &&& 31)) - (1 : Int32))), .val (.int (p1 ||| ((286331153 : Int32) &&& (((1 : Int32) <<< ((20 : Int32) &&& 31)) - (1 : Int32))))), .val (.int ((p1 ||| ((286331153 : Int32) &&& (((1 : Int32) <<< ((20 : Int32) &&& 31)) - (1 : Int32)))) &&& (((15 : Int32) <<< ((20 : Int32) &&& 31)) ^^^ (-1 : Int32)))), .unset, .unset] [(.int (own_f2 p1)), (.int (own_f1 p1))])) _
                  refine XS.icmpYes X65.here hx rfl (pc0 := 66) (pc' := 73) rfl (hb hby at_66) rfl (feq hc22).2 (by decide) (by decide) ?_
                  show Steps p.tables e below (T65.setTop (mkF m 73 #[.val (.int p1), .val (.int p2), .val (.int (5 : Int32)), .val (.int (((1 : Int32) <<< ((20 : Int32) &&& 31)) - (1 : Int32))), .val (.int (p1 ||| ((286331153 : Int32) &&& (((1 : Int32) <<< ((20 : Int32) &&& 31)) - (1 : Int32))))), .val (.int ((p1 ||| ((286331153 : Int32) &&& (((1 : Int32) <<< ((20 : Int32) &&& 31)) - (1 : Int32)))) &&& (((15 : Int32) <<< ((20 : Int32) &&& 31)) ^^^ (-1 : Int32)))), .unset, .unset] [])) _
                  refine XS.iconst X65.here hx rfl (hb hby at_73) ?_
                  show Steps p.tables e below (T65.setTop (mkF m 74 #[.val (.int p1), .val (.int p2), .val (.int (5 : Int32)), .val (.int (((1 : Int32) <<< ((20 : Int32) &&& 31)) - (1 : Int32))), .val (.int (p1 ||| ((286331153 : Int32) &&& (((1 : Int32) <<< ((20 : Int32) &&& 31)) - (1 : Int32))))), .val (.int ((p1 ||| ((286331153 : Int32) &&& (((1 : Int32) <<< ((20 : Int32) &&& 31)) - (1 : Int32)))) &&& (((15 : Int32) <<< ((20 : Int32) &&& 31)) ^^^ (-1 : Int32)))), .unset, .unset] [(.int (0 : Int32))])) _
                  refine XS.istore X65.here hx rfl (hb hby at_74) rfl (l' := #[.val (.int p1), .val (.int p2), .val (.int (5 : Int32)), .val (.int (((1 : Int32) <<< ((20 : Int32) &&& 31)) - (1 : Int32))), .val (.int (p1 ||| ((286331153 : Int32) &&& (((1 : Int32) <<< ((20 : Int32) &&& 31)) - (1 : Int32))))), .val (.int ((p1 ||| ((286331153 : Int32) &&& (((1 : Int32) <<< ((20 : Int32) &&& 31)) - (1 : Int32)))) &&& (((15 : Int32) <<< ((20 : Int32) &&& 31)) ^^^ (-1 : Int32)))), .val (.int (0 : Int32)), .unset]) rfl ?_
                  show Steps p.tables e below (T65.setTop (mkF m 76 #[.val (.int p1), .val (.int p2), .val (.int (5 : Int32)), .val (.int (((1 : Int32) <<< ((20 : Int32) &&& 31)) - (1 : Int32))), .val (.int (p1 ||| ((286331153 : Int32) &&& (((1 : Int32) <<< ((20 : Int32) &&& 31)) - (1 : Int32))))), .val (.int ((p1 ||| ((286331153 : Int32) &&& (((1 : Int32) <<< ((20 : Int32) &&& 31)) - (1 : Int32)))) &&& (((15 : Int32) <<< ((20 : Int32) &&& 31)) ^^^ (-1 : Int32)))), .val (.int (0 : Int32)), .unset] [])) _
                  refine XS.iload X65.here hx rfl (hb hby at_76) rfl ?_
                  show Steps p.tables e below (T65.setTop (mkF m 78 #[.val (.int p1), .val (.int p2), .val (.int (5 : Int32)), .val (.int (((1 : Int32) <<< ((20 : Int32) &&& 31)) - (1 : Int32))), .val (.int (p1 ||| ((286331153 : Int32) &&& (((1 : Int32) <<< ((20 : Int32) &&& 31)) - (1 : Int32))))), .val (.int ((p1 ||| ((286331153 : Int32) &&& (((1 : Int32) <<< ((20 : Int32) &&& 31)) - (1 : Int32)))) &&& (((15 : Int32) <<< ((20 : Int32) &&& 31)) ^^^ (-1 : Int32)))), .val (.int (0 : Int32)), .unset] [(.int ((p1 ||| ((286331153 : Int32) &&& (((1 : Int32) <<< ((20 : Int32) &&& 31)) - (1 : Int32)))) &&& (((15 : Int32) <<< ((20 : Int32) &&& 31)) ^^^ (-1 : Int32))))])) _
                  refine st71 _ ?_
                  show Steps p.tables e below (T71.setTop (mkF m 81 #[.val (.int p1), .val (.int p2), .val (.int (5 : Int32)), .val (.int (((1 : Int32) <<< ((20 : Int32) &&& 31)) - (1 : Int32))), .val (.int (p1 ||| ((286331153 : Int32) &&& (((1 : Int32) <<< ((20 : Int32) &&& 31)) - (1 : Int32))))), .val (.int ((p1 ||| ((286331153 : Int32) &&& (((1 : Int32) <<< ((20 : Int32) &&& 31)) - (1 : Int32)))) &&& (((15 : Int32) <<< ((20 : Int32) &&& 31)) ^^^ (-1 : Int32)))), .val (.int (0 : Int32)), .unset] [(.int (own_f1 ((p1 ||| ((286331153 : Int32) &&& (((1 : Int32) <<< ((20 : Int32) &&& 31)) - (1 : Int32)))) &&& (((15 : Int32) <<< ((20 : Int32) &&& 31)) ^^^ (-1 : Int32)))))])) _
                  refine XS.iloadN X71.here hx rfl (hb hby at_81) rfl ?_
                  exact kt
                by_cases hc24 : (own_f1 ((p1 ||| ((286331153 : Int32) &&& (((1 : Int32) <<< ((20 : Int32) &&& 31)) - (1 : Int32)))) &&& (((15 : Int32) <<< ((20 : Int32) &&& 31)) ^^^ (-1 : Int32)))) = (5 : Int32)
                ·
                  obtain ⟨fs, hr, hrun, hended, hW, hsame⟩ := X71.leave (v := some (.int (0 : Int32))) (fun h => by rw [Bd.returns] at h; cases h)
                  refine ⟨_, _, k73 _ ?_, hrun, hended, _, _, rfl, ?_, ⟨_, rfl⟩, hW, hsame.mono (by decide) (by decide)⟩
                  · show Steps p.tables e below (T71.setTop (mkF m 82 #[.val (.int p1), .val (.int p2), .val (.int (5 : Int32)), .val (.int (((1 : Int32) <<< ((20 : Int32) &&& 31)) - (1 : Int32))), .val (.int (p1 ||| ((286331153 : Int32) &&& (((1 : Int32) <<< ((20 : Int32) &&& 31)) - (1 : Int32))))), .val (.int ((p1 ||| ((286331153 : Int32) &&& (((1 : Int32) <<< ((20 : Int32) &&& 31)) - (1 : Int32)))) &&& (((15 : Int32) <<< ((20 : Int32) &&& 31)) ^^^ (-1 : Int32)))), .val (.int (0 : Int32)), .unset] [(.int (5 : Int32)), (.int (own_f1 ((p1 ||| ((286331153 : Int32) &&& (((1 : Int32) <<< ((20 : Int32) &&& 31)) - (1 : Int32)))) &&& (((15 : Int32) <<< ((20 : Int32) &&& 31)) ^^^ (-1 : Int32)))))])) _
                    refine XS.icmpNo X71.here hx rfl (hb hby at_82) rfl (teq hc24).2 ?_
                    show Steps p.tables e below (T71.setTop (mkF m 85 #[.val (.int p1), .val (.int p2), .val (.int (5 : Int32)), .val (.int (((1 : Int32) <<< ((20 : Int32) &&& 31)) - (1 : Int32))), .val (.int (p1 ||| ((286331153 : Int32) &&& (((1 : Int32) <<< ((20 : Int32) &&& 31)) - (1 : Int32))))), .val (.int ((p1 ||| ((286331153 : Int32) &&& (((1 : Int32) <<< ((20 : Int32) &&& 31)) - (1 : Int32)))) &&& (((15 : Int32) <<< ((20 : Int32) &&& 31)) ^^^ (-1 : Int32)))), .val (.int (0 : Int32)), .unset] [])) _
                    refine XS.iconst X71.here hx rfl (hb hby at_85) ?_
                    show Steps p.tables e below (T71.setTop (mkF m 86 #[.val (.int p1), .val (.int p2), .val (.int (5 : Int32)), .val (.int (((1 : Int32) <<< ((20 : Int32) &&& 31)) - (1 : Int32))), .val (.int (p1 ||| ((286331153 : Int32) &&& (((1 : Int32) <<< ((20 : Int32) &&& 31)) - (1 : Int32))))), .val (.int ((p1 ||| ((286331153 : Int32) &&& (((1 : Int32) <<< ((20 : Int32) &&& 31)) - (1 : Int32)))) &&& (((15 : Int32) <<< ((20 : Int32) &&& 31)) ^^^ (-1 : Int32)))), .val (.int (0 : Int32)), .unset] [(.int (1 : Int32))])) _
                    refine XS.goto X71.here hx rfl (pc0 := 86) (pc' := 90) rfl (hb hby at_86) (by decide) (by decide) ?_
                    show Steps p.tables e below (T71.setTop (mkF m 90 #[.val (.int p1), .val (.int p2), .val (.int (5 : Int32)), .val (.int (((1 : Int32) <<< ((20 : Int32) &&& 31)) - (1 : Int32))), .val (.int (p1 ||| ((286331153 : Int32) &&& (((1 : Int32) <<< ((20 : Int32) &&& 31)) - (1 : Int32))))), .val (.int ((p1 ||| ((286331153 : Int32) &&& (((1 : Int32) <<< ((20 : Int32) &&& 31)) - (1 : Int32)))) &&& (((15 : Int32) <<< ((20 : Int32) &&& 31)) ^^^ (-1 : Int32)))), .val (.int (0 : Int32)), .unset] [(.int (1 : Int32))])) _
                    refine XS.istore X71.here hx rfl (hb hby at_90) rfl (l' := #[.val (.int p1), .val (.int p2), .val (.int (5 : Int32)), .val (.int (((1 : Int32) <<< ((20 : Int32) &&& 31)) - (1 : Int32))), .val (.int (p1 ||| ((286331153 : Int32) &&& (((1 : Int32) <<< ((20 : Int32) &&& 31)) - (1 : Int32))))), .val (.int ((p1 ||| ((286331153 : Int32) &&& (((1 : Int32) <<< ((20 : Int32) &&& 31)) - (1 : Int32)))) &&& (((15 : Int32) <<< ((20 : Int32) &&& 31)) ^^^ (-1 : Int32)))), .val (.int (0 : Int32)), .val (.int (1 : Int32))]) rfl ?_
                    show Steps p.tables e below (T71.setTop (mkF m 92 #[.val (.int p1), .val (.int p2), .val (.int (5 : Int32)), .val (.int (((1 : Int32) <<< ((20 : Int32) &&& 31)) - (1 : Int32))), .val (.int (p1 ||| ((286331153 : Int32) &&& (((1 : Int32) <<< ((20 : Int32) &&& 31)) - (1 : Int32))))), .val (.int ((p1 ||| ((286331153 : Int32) &&& (((1 : Int32) <<< ((20 : Int32) &&& 31)) - (1 : Int32)))) &&& (((15 : Int32) <<< ((20 : Int32) &&& 31)) ^^^ (-1 : Int32)))), .val (.int (0 : Int32)), .val (.int (1 : Int32))] [])) _
                    refine XS.iload X71.here hx rfl (hb hby at_92) rfl ?_
                    show Steps p.tables e below (T71.setTop (mkF m 94 #[.val (.int p1), .val (.int p2), .val (.int (5 : Int32)), .val (.int (((1 : Int32) <<< ((20 : Int32) &&& 31)) - (1 : Int32))), .val (.int (p1 ||| ((286331153 : Int32) &&& (((1 : Int32) <<< ((20 : Int32) &&& 31)) - (1 : Int32))))), .val (.int ((p1 ||| ((286331153 : Int32) &&& (((1 : Int32) <<< ((20 : Int32) &&& 31)) - (1 : Int32)))) &&& (((15 : Int32) <<< ((20 : Int32) &&& 31)) ^^^ (-1 : Int32)))), .val (.int (0 : Int32)), .val (.int (1 : Int32))] [(.int (0 : Int32))])) _
                    refine XS.ifYes X71.here hx rfl (pc0 := 94) (pc' := 106) rfl (hb hby at_94) rfl ((if0 _ _).trans (teq (by decide : (0 : Int32) = (0 : Int32))).1) (by decide) (by decide) ?_
                    show Steps p.tables e below (T71.setTop (mkF m 106 #[.val (.int p1), .val (.int p2), .val (.int (5 : Int32)), .val (.int (((1 : Int32) <<< ((20 : Int32) &&& 31)) - (1 : Int32))), .val (.int (p1 ||| ((286331153 : Int32) &&& (((1 : Int32) <<< ((20 : Int32) &&& 31)) - (1 : Int32))))), .val (.int ((p1 ||| ((286331153 : Int32) &&& (((1 : Int32) <<< ((20 : Int32) &&& 31)) - (1 : Int32)))) &&& (((15 : Int32) <<< ((20 : Int32) &&& 31)) ^^^ (-1 : Int32)))), .val (.int (0 : Int32)), .val (.int (1 : Int32))] [])) _
                    refine XS.iconst X71.here hx rfl (hb hby at_106) ?_
                    show Steps p.tables e below (T71.setTop (mkF m 107 #[.val (.int p1), .val (.int p2), .val (.int (5 : Int32)), .val (.int (((1 : Int32) <<< ((20 : Int32) &&& 31)) - (1 : Int32))), .val (.int (p1 ||| ((286331153 : Int32) &&& (((1 : Int32) <<< ((20 : Int32) &&& 31)) - (1 : Int32))))), .val (.int ((p1 ||| ((286331153 : Int32) &&& (((1 : Int32) <<< ((20 : Int32) &&& 31)) - (1 : Int32)))) &&& (((15 : Int32) <<< ((20 : Int32) &&& 31)) ^^^ (-1 : Int32)))), .val (.int (0 : Int32)), .val (.int (1 : Int32))] [(.int (0 : Int32))])) _
                    exact retN X71 hx (t := .boolean) Bd.returns (by simp) (hb hby at_107) hr
                  · show own_Q0 Z p1 p2 h0 n0 _ T71.heap _
                    rw [e71]
                    exact ⟨(by rw [own_f0, if_neg hc1, if_neg hc5, if_neg hc9, if_neg hc13, if_neg hc17, if_pos hc21, if_neg hc22, if_pos hc24]), N72⟩
                ·
                  obtain ⟨fs, hr, hrun, hended, hW, hsame⟩ := X71.leave (v := some (.int (0 : Int32))) (fun h => by rw [Bd.returns] at h; cases h)
                  refine ⟨_, _, k73 _ ?_, hrun, hended, _, _, rfl, ?_, ⟨_, rfl⟩, hW, hsame.mono (by decide) (by decide)⟩
                  · show Steps p.tables e below (T71.setTop (mkF m 82 #[.val (.int p1), .val (.int p2), .val (.int (5 : Int32)), .val (.int (((1 : Int32) <<< ((20 : Int32) &&& 31)) - (1 : Int32))), .val (.int (p1 ||| ((286331153 : Int32) &&& (((1 : Int32) <<< ((20 : Int32) &&& 31)) - (1 : Int32))))), .val (.int ((p1 ||| ((286331153 : Int32) &&& (((1 : Int32) <<< ((20 : Int32) &&& 31)) - (1 : Int32)))) &&& (((15 : Int32) <<< ((20 : Int32) &&& 31)) ^^^ (-1 : Int32)))), .val (.int (0 : Int32)), .unset] [(.int (5 : Int32)), (.int (own_f1 ((p1 ||| ((286331153 : Int32) &&& (((1 : Int32) <<< ((20 : Int32) &&& 31)) - (1 : Int32)))) &&& (((15 : Int32) <<< ((20 : Int32) &&& 31)) ^^^ (-1 : Int32)))))])) _
                    refine XS.icmpYes X71.here hx rfl (pc0 := 82) (pc' := 89) rfl (hb hby at_82) rfl (feq hc24).2 (by decide) (by decide) ?_
                    show Steps p.tables e below (T71.setTop (mkF m 89 #[.val (.int p1), .val (.int p2), .val (.int (5 : Int32)), .val (.int (((1 : Int32) <<< ((20 : Int32) &&& 31)) - (1 : Int32))), .val (.int (p1 ||| ((286331153 : Int32) &&& (((1 : Int32) <<< ((20 : Int32) &&& 31)) - (1 : Int32))))), .val (.int ((p1 ||| ((286331153 : Int32) &&& (((1 : Int32) <<< ((20 : Int32) &&& 31)) - (1 : Int32)))) &&& (((15 : Int32) <<< ((20 : Int32) &&& 31)) ^^^ (-1 : Int32)))), .val (.int (0 : Int32)), .unset] [])) _
                    refine XS.iconst X71.here hx rfl (hb hby at_89) ?_
                    show Steps p.tables e below (T71.setTop (mkF m 90 #[.val (.int p1), .val (.int p2), .val (.int (5 : Int32)), .val (.int (((1 : Int32) <<< ((20 : Int32) &&& 31)) - (1 : Int32))), .val (.int (p1 ||| ((286331153 : Int32) &&& (((1 : Int32) <<< ((20 : Int32) &&& 31)) - (1 : Int32))))), .val (.int ((p1 ||| ((286331153 : Int32) &&& (((1 : Int32) <<< ((20 : Int32) &&& 31)) - (1 : Int32)))) &&& (((15 : Int32) <<< ((20 : Int32) &&& 31)) ^^^ (-1 : Int32)))), .val (.int (0 : Int32)), .unset] [(.int (0 : Int32))])) _
                    refine XS.istore X71.here hx rfl (hb hby at_90) rfl (l' := #[.val (.int p1), .val (.int p2), .val (.int (5 : Int32)), .val (.int (((1 : Int32) <<< ((20 : Int32) &&& 31)) - (1 : Int32))), .val (.int (p1 ||| ((286331153 : Int32) &&& (((1 : Int32) <<< ((20 : Int32) &&& 31)) - (1 : Int32))))), .val (.int ((p1 ||| ((286331153 : Int32) &&& (((1 : Int32) <<< ((20 : Int32) &&& 31)) - (1 : Int32)))) &&& (((15 : Int32) <<< ((20 : Int32) &&& 31)) ^^^ (-1 : Int32)))), .val (.int (0 : Int32)), .val (.int (0 : Int32))]) rfl ?_
                    show Steps p.tables e below (T71.setTop (mkF m 92 #[.val (.int p1), .val (.int p2), .val (.int (5 : Int32)), .val (.int (((1 : Int32) <<< ((20 : Int32) &&& 31)) - (1 : Int32))), .val (.int (p1 ||| ((286331153 : Int32) &&& (((1 : Int32) <<< ((20 : Int32) &&& 31)) - (1 : Int32))))), .val (.int ((p1 ||| ((286331153 : Int32) &&& (((1 : Int32) <<< ((20 : Int32) &&& 31)) - (1 : Int32)))) &&& (((15 : Int32) <<< ((20 : Int32) &&& 31)) ^^^ (-1 : Int32)))), .val (.int (0 : Int32)), .val (.int (0 : Int32))] [])) _
                    refine XS.iload X71.here hx rfl (hb hby at_92) rfl ?_
                    show Steps p.tables e below (T71.setTop (mkF m 94 #[.val (.int p1), .val (.int p2), .val (.int (5 : Int32)), .val (.int (((1 : Int32) <<< ((20 : Int32) &&& 31)) - (1 : Int32))), .val (.int (p1 ||| ((286331153 : Int32) &&& (((1 : Int32) <<< ((20 : Int32) &&& 31)) - (1 : Int32))))), .val (.int ((p1 ||| ((286331153 : Int32) &&& (((1 : Int32) <<< ((20 : Int32) &&& 31)) - (1 : Int32)))) &&& (((15 : Int32) <<< ((20 : Int32) &&& 31)) ^^^ (-1 : Int32)))), .val (.int (0 : Int32)), .val (.int (0 : Int32))] [(.int (0 : Int32))])) _
                    refine XS.ifYes X71.here hx rfl (pc0 := 94) (pc' := 106) rfl (hb hby at_94) rfl ((if0 _ _).trans (teq (by decide : (0 : Int32) = (0 : Int32))).1) (by decide) (by decide) ?_
                    show Steps p.tables e below (T71.setTop (mkF m 106 #[.val (.int p1), .val (.int p2), .val (.int (5 : Int32)), .val (.int (((1 : Int32) <<< ((20 : Int32) &&& 31)) - (1 : Int32))), .val (.int (p1 ||| ((286331153 : Int32) &&& (((1 : Int32) <<< ((20 : Int32) &&& 31)) - (1 : Int32))))), .val (.int ((p1 ||| ((286331153 : Int32) &&& (((1 : Int32) <<< ((20 : Int32) &&& 31)) - (1 : Int32)))) &&& (((15 : Int32) <<< ((20 : Int32) &&& 31)) ^^^ (-1 : Int32)))), .val (.int (0 : Int32)), .val (.int (0 : Int32))] [])) _
                    refine XS.iconst X71.here hx rfl (hb hby at_106) ?_
                    show Steps p.tables e below (T71.setTop (mkF m 107 #[.val (.int p1), .val (.int p2), .val (.int (5 : Int32)), .val (.int (((1 : Int32) <<< ((20 : Int32) &&& 31)) - (1 : Int32))), .val (.int (p1 ||| ((286331153 : Int32) &&& (((1 : Int32) <<< ((20 : Int32) &&& 31)) - (1 : Int32))))), .val (.int ((p1 ||| ((286331153 : Int32) &&& (((1 : Int32) <<< ((20 : Int32) &&& 31)) - (1 : Int32)))) &&& (((15 : Int32) <<< ((20 : Int32) &&& 31)) ^^^ (-1 : Int32)))), .val (.int (0 : Int32)), .val (.int (0 : Int32))] [(.int (0 : Int32))])) _
                    exact retN X71 hx (t := .boolean) Bd.returns (by simp) (hb hby at_107) hr
                  · show own_Q0 Z p1 p2 h0 n0 _ T71.heap _
                    rw [e71]
                    exact ⟨(by rw [own_f0, if_neg hc1, if_neg hc5, if_neg hc9, if_neg hc13, if_neg hc17, if_pos hc21, if_neg hc22, if_neg hc24]), N72⟩
            ·
              by_cases hc25 : ((p2 &&& (2147483647 : Int32)) - ((p2 &&& (2147483647 : Int32)) / (9 : Int32)) * (9 : Int32)) = (6 : Int32)
              ·
                have k74 : ∀ t, Steps p.tables e below (s₁.setTop (mkF m 7 #[.val (.int p1), .val (.int p2), .unset, .unset, .unset, .unset, .unset, .unset] [(.int (6 : Int32))])) t → Steps p.tables e below (s₁.setTop (entryFrame m #[(.int p1), (.int p2)] maxLocals)) t := by
                  intro t kt
                  refine k1 t ?_
                  rw [hc25]
                  exact kt
                obtain ⟨v75, _, ⟨T75, L75, k75, n75⟩, -, X75, ⟨Lc75, hQ75, l75, y75, z75⟩, st75⟩ := Jvm.LawKit.callS X0 hx (y := (⟨"com/example/kerb/kerb/txn/SoleLocks", "length", "(I)I"⟩ : MethodName)) hown (mvT hZ (hw _ (List.mem_of_getElem? (i := 2) rfl))) (mvT hZ (hw _ (List.mem_of_getElem? (i := 3) rfl))) (mvT hZ (hw _ (List.mem_of_getElem? (i := 4) rfl))) (mvT hZ (hw _ (List.mem_of_getElem? (i := 5) rfl))) (by decide) (backOf (W := 0) (own_rm1 l Z a0 hw [] p1 h0 n0 Z0) hZ (hw _ (List.mem_of_getElem? (i := 5) rfl)) (hw _ (List.mem_of_getElem? (i := 4) rfl)) (by decide) (by decide)) (g := (mkF m 59 #[.val (.int p1), .val (.int p2), .val (.int (6 : Int32)), .val (.int (((1 : Int32) <<< ((24 : Int32) &&& 31)) - (1 : Int32))), .val (.int (p1 ||| ((286331153 : Int32) &&& (((1 : Int32) <<< ((24 : Int32) &&& 31)) - (1 : Int32))))), .val (.int ((p1 ||| ((286331153 : Int32) &&& (((1 : Int32) <<< ((24 : Int32) &&& 31)) - (1 : Int32)))) &&& (((15 : Int32) <<< ((24 : Int32) &&& 31)) ^^^ (-1 : Int32)))), .unset, .unset] [(.int p1)])) rfl (by rw [hml]; rfl) (argsL := [(.int p1)]) (rest := []) (lenOf own_pd69 rfl) rfl (by show 2 * 0 + _ ≤ _; exact Nat.le_of_eq rfl) (hb hby at_59) (fun _ _ => ⟨rfl, e0, (by decide : 0 + 0 ≤ _), (by decide : 0 + 0 ≤ _)⟩)
                dsimp only [Pt.U, Pt.locs, Pt.cells, Pt.slots] at X75 l75 y75 z75 st75 hQ75
                subst l75 y75 z75
                obtain ⟨rfl, N75q, e75⟩ := hQ75
                have N76 := Fr.app N0 N75q
                obtain ⟨v77, _, ⟨T77, L77, k77, n77⟩, -, X77, ⟨Lc77, hQ77, l77, y77, z77⟩, st77⟩ := Jvm.LawKit.callS X75 hx (y := (⟨"com/example/kerb/kerb/txn/SoleLocksLengthPinLaw", "ref", "(I)I"⟩ : MethodName)) hown (mvT hZ (hw _ (List.mem_of_getElem? (i := 6) rfl))) (mvT hZ (hw _ (List.mem_of_getElem? (i := 7) rfl))) (mvT hZ (hw _ (List.mem_of_getElem? (i := 8) rfl))) (mvT hZ (hw _ (List.mem_of_getElem? (i := 9) rfl))) (by decide) (backOf (W := 1) (own_rm2 l Z a0 hw [] p1 h0 n0 Z0) hZ (hw _ (List.mem_of_getElem? (i := 9) rfl)) (hw _ (List.mem_of_getElem? (i := 8) rfl)) (by decide) (by decide)) (g := (mkF m 63 #[.val (.int p1), .val (.int p2), .val (.int (6 : Int32)), .val (.int (((1 : Int32) <<< ((24 : Int32) &&& 31)) - (1 : Int32))), .val (.int (p1 ||| ((286331153 : Int32) &&& (((1 : Int32) <<< ((24 : Int32) &&& 31)) - (1 : Int32))))), .val (.int ((p1 ||| ((286331153 : Int32) &&& (((1 : Int32) <<< ((24 : Int32) &&& 31)) - (1 : Int32)))) &&& (((15 : Int32) <<< ((24 : Int32) &&& 31)) ^^^ (-1 : Int32)))), .unset, .unset] [(.int p1), (.int (own_f1 p1))])) rfl (by rw [hml]; rfl) (argsL := [(.int p1)]) (rest := [(.int (own_f1 p1))]) (lenOf own_pd69 rfl) rfl (by show 2 * 0 + _ ≤ _; exact Nat.le_of_eq rfl) (hb hby at_63) (fun _ _ => ⟨rfl, e75, (by decide : 0 + 0 ≤ _), (by decide : 0 + 0 ≤ _)⟩)
                dsimp only [Pt.U, Pt.locs, Pt.cells, Pt.slots] at X77 l77 y77 z77 st77 hQ77
                subst l77 y77 z77
                obtain ⟨rfl, N77q, e77⟩ := hQ77
                have N78 := Fr.app N76 N77q
                have k79 : ∀ t, Steps p.tables e below (T77.setTop (mkF m 66 #[.val (.int p1), .val (.int p2), .val (.int (6 : Int32)), .val (.int (((1 : Int32) <<< ((24 : Int32) &&& 31)) - (1 : Int32))), .val (.int (p1 ||| ((286331153 : Int32) &&& (((1 : Int32) <<< ((24 : Int32) &&& 31)) - (1 : Int32))))), .val (.int ((p1 ||| ((286331153 : Int32) &&& (((1 : Int32) <<< ((24 : Int32) &&& 31)) - (1 : Int32)))) &&& (((15 : Int32) <<< ((24 : Int32) &&& 31)) ^^^ (-1 : Int32)))), .unset, .unset] [(.int (own_f2 p1)), (.int (own_f1 p1))])) t → Steps p.tables e below (s₁.setTop (entryFrame m #[(.int p1), (.int p2)] maxLocals)) t := by
                  intro t kt
                  refine k74 t ?_
                  show Steps p.tables e below (s₁.setTop (mkF m 7 #[.val (.int p1), .val (.int p2), .unset, .unset, .unset, .unset, .unset, .unset] [(.int (6 : Int32))])) _
                  refine XS.istoreN X0.here hx rfl (hb hby at_7) rfl (l' := #[.val (.int p1), .val (.int p2), .val (.int (6 : Int32)), .unset, .unset, .unset, .unset, .unset]) rfl ?_
                  show Steps p.tables e below (s₁.setTop (mkF m 8 #[.val (.int p1), .val (.int p2), .val (.int (6 : Int32)), .unset, .unset, .unset, .unset, .unset] [])) _
                  refine XS.iloadN X0.here hx rfl (hb hby at_8) rfl ?_
                  show Steps p.tables e below (s₁.setTop (mkF m 9 #[.val (.int p1), .val (.int p2), .val (.int (6 : Int32)), .unset, .unset, .unset, .unset, .unset] [(.int (6 : Int32))])) _
                  refine XS.bipush X0.here hx rfl (hb hby at_9) ?_
                  show Steps p.tables e below (s₁.setTop (mkF m 11 #[.val (.int p1), .val (.int p2), .val (.int (6 : Int32)), .unset, .unset, .unset, .unset, .unset] [(.int (8 : Int32)), (.int (6 : Int32))])) _
                  refine XS.icmpYes X0.here hx rfl (pc0 := 11) (pc' := 18) rfl (hb hby at_11) rfl (feq (by decide : ¬ ((6 : Int32) = (8 : Int32)))).2 (by decide) (by decide) ?_
                  show Steps p.tables e below (s₁.setTop (mkF m 18 #[.val (.int p1), .val (.int p2), .val (.int (6 : Int32)), .unset, .unset, .unset, .unset, .unset] [])) _
                  refine XS.iconst X0.here hx rfl (hb hby at_18) ?_
                  show Steps p.tables e below (s₁.setTop (mkF m 19 #[.val (.int p1), .val (.int p2), .val (.int (6 : Int32)), .unset, .unset, .unset, .unset, .unset] [(.int (1 : Int32))])) _
                  refine XS.iconst X0.here hx rfl (hb hby at_19) ?_
                  show Steps p.tables e below (s₁.setTop (mkF m 20 #[.val (.int p1), .val (.int p2), .val (.int (6 : Int32)), .unset, .unset, .unset, .unset, .unset] [(.int (4 : Int32)), (.int (1 : Int32))])) _
                  refine XS.iloadN X0.here hx rfl (hb hby at_20) rfl ?_
                  show Steps p.tables e below (s₁.setTop (mkF m 21 #[.val (.int p1), .val (.int p2), .val (.int (6 : Int32)), .unset, .unset, .unset, .unset, .unset] [(.int (6 : Int32)), (.int (4 : Int32)), (.int (1 : Int32))])) _
                  refine XS.imul X0.here hx rfl (hb hby at_21) rfl ?_
                  show Steps p.tables e below (s₁.setTop (mkF m 22 #[.val (.int p1), .val (.int p2), .val (.int (6 : Int32)), .unset, .unset, .unset, .unset, .unset] [(.int (24 : Int32)), (.int (1 : Int32))])) _
                  refine XS.ishl X0.here hx rfl (hb hby at_22) rfl ?_
                  show Steps p.tables e below (s₁.setTop (mkF m 23 #[.val (.int p1), .val (.int p2), .val (.int (6 : Int32)), .unset, .unset, .unset, .unset, .unset] [(.int ((1 : Int32) <<< ((24 : Int32) &&& 31)))])) _
                  refine XS.iconst X0.here hx rfl (hb hby at_23) ?_
                  show Steps p.tables e below (s₁.setTop (mkF m 24 #[.val (.int p1), .val (.int p2), .val (.int (6 : Int32)), .unset, .unset, .unset, .unset, .unset] [(.int (1 : Int32)), (.int ((1 : Int32) <<< ((24 : Int32) &&& 31)))])) _
                  refine XS.isub X0.here hx rfl (hb hby at_24) rfl ?_
                  show Steps p.tables e below (s₁.setTop (mkF m 25 #[.val (.int p1), .val (.int p2), .val (.int (6 : Int32)), .unset, .unset, .unset, .unset, .unset] [(.int (((1 : Int32) <<< ((24 : Int32) &&& 31)) - (1 : Int32)))])) _
                  refine XS.istoreN X0.here hx rfl (hb hby at_25) rfl (l' := #[.val (.int p1), .val (.int p2), .val (.int (6 : Int32)), .val (.int (((1 : Int32) <<< ((24 : Int32) &&& 31)) - (1 : Int32))), .unset, .unset, .unset, .unset]) rfl ?_
                  show Steps p.tables e below (s₁.setTop (mkF m 26 #[.val (.int p1), .val (.int p2), .val (.int (6 : Int32)), .val (.int (((1 : Int32) <<< ((24 : Int32) &&& 31)) - (1 : Int32))), .unset, .unset, .unset, .unset] [])) _
                  refine XS.iloadN X0.here hx rfl (hb hby at_26) rfl ?_
                  show Steps p.tables e below (s₁.setTop (mkF m 27 #[.val (.int p1), .val (.int p2), .val (.int (6 : Int32)), .val (.int (((1 : Int32) <<< ((24 : Int32) &&& 31)) - (1 : Int32))), .unset, .unset, .unset, .unset] [(.int p1)])) _
                  refine X0.ldcInt hx hown (mvT hZ (hw _ (List.mem_of_getElem? (i := 1) rfl))) (g := (mkF m 27 #[.val (.int p1), .val (.int p2), .val (.int (6 : Int32)), .val (.int (((1 : Int32) <<< ((24 : Int32) &&& 31)) - (1 : Int32))), .unset, .unset, .unset, .unset] [(.int p1)])) rfl (hb hby at_27) _ ?_
                  show Steps p.tables e below (s₁.setTop (mkF m 29 #[.val (.int p1), .val (.int p2), .val (.int (6 : Int32)), .val (.int (((1 : Int32) <<< ((24 : Int32) &&& 31)) - (1 : Int32))), .unset, .unset, .unset, .unset] [(.int (286331153 : Int32)), (.int p1)])) _
                  refine XS.iloadN X0.here hx rfl (hb hby at_29) rfl ?_
                  show Steps p.tables e below (s₁.setTop (mkF m 30 #[.val (.int p1), .val (.int p2), .val (.int (6 : Int32)), .val (.int (((1 : Int32) <<< ((24 : Int32) &&& 31)) - (1 : Int32))), .unset, .unset, .unset, .unset] [(.int (((1 : Int32) <<< ((24 : Int32) &&& 31)) - (1 : Int32))), (.int (286331153 : Int32)), (.int p1)])) _
                  refine XS.iand X0.here hx rfl (hb hby at_30) rfl ?_
                  show Steps p.tables e below (s₁.setTop (mkF m 31 #[.val (.int p1), .val (.int p2), .val (.int (6 : Int32)), .val (.int (((1 : Int32) <<< ((24 : Int32) &&& 31)) - (1 : Int32))), .unset, .unset, .unset, .unset] [(.int ((286331153 : Int32) &&& (((1 : Int32) <<< ((24 : Int32) &&& 31)) - (1 : Int32)))), (.int p1)])) _
                  refine XS.ior X0.here hx rfl (hb hby at_31) rfl ?_
                  show Steps p.tables e below (s₁.setTop (mkF m 32 #[.val (.int p1), .val (.int p2), .val (.int (6 : Int32)), .val (.int (((1 : Int32) <<< ((24 : Int32) &&& 31)) - (1 : Int32))), .unset, .unset, .unset, .unset] [(.int (p1 ||| ((286331153 : Int32) &&& (((1 : Int32) <<< ((24 : Int32) &&& 31)) - (1 : Int32)))))])) _
                  refine XS.istore X0.here hx rfl (hb hby at_32) rfl (l' := #[.val (.int p1), .val (.int p2), .val (.int (6 : Int32)), .val (.int (((1 : Int32) <<< ((24 : Int32) &&& 31)) - (1 : Int32))), .val (.int (p1 ||| ((286331153 : Int32) &&& (((1 : Int32) <<< ((24 : Int32) &&& 31)) - (1 : Int32))))), .unset, .unset, .unset]) rfl ?_
                  show Steps p.tables e below (s₁.setTop (mkF m 34 #[.val (.int p1), .val (.int p2), .val (.int (6 : Int32)), .val (.int (((1 : Int32) <<< ((24 : Int32) &&& 31)) - (1 : Int32))), .val (.int (p1 ||| ((286331153 : Int32) &&& (((1 : Int32) <<< ((24 : Int32) &&& 31)) - (1 : Int32))))), .unset, .unset, .unset] [])) _
                  refine XS.iloadN X0.here hx rfl (hb hby at_34) rfl ?_
                  show Steps p.tables e below (s₁.setTop (mkF m 35 #[.val (.int p1), .val (.int p2), .val (.int (6 : Int32)), .val (.int (((1 : Int32) <<< ((24 : Int32) &&& 31)) - (1 : Int32))), .val (.int (p1 ||| ((286331153 : Int32) &&& (((1 : Int32) <<< ((24 : Int32) &&& 31)) - (1 : Int32))))), .unset, .unset, .unset] [(.int (6 : Int32))])) _
                  refine XS.bipush X0.here hx rfl (hb hby at_35) ?_
                  show Steps p.tables e below (s₁.setTop (mkF m 37 #[.val (.int p1), .val (.int p2), .val (.int (6 : Int32)), .val (.int (((1 : Int32) <<< ((24 : Int32) &&& 31)) - (1 : Int32))), .val (.int (p1 ||| ((286331153 : Int32) &&& (((1 : Int32) <<< ((24 : Int32) &&& 31)) - (1 : Int32))))), .unset, .unset, .unset] [(.int (8 : Int32)), (.int (6 : Int32))])) _
                  refine XS.icmpYes X0.here hx rfl (pc0 := 37) (pc' := 45) rfl (hb hby at_37) rfl (feq (by decide : ¬ ((6 : Int32) = (8 : Int32)))).2 (by decide) (by decide) ?_
                  show Steps p.tables e below (s₁.setTop (mkF m 45 #[.val (.int p1), .val (.int p2), .val (.int (6 : Int32)), .val (.int (((1 : Int32) <<< ((24 : Int32) &&& 31)) - (1 : Int32))), .val (.int (p1 ||| ((286331153 : Int32) &&& (((1 : Int32) <<< ((24 : Int32) &&& 31)) - (1 : Int32))))), .unset, .unset, .unset] [])) _
                  refine XS.iload X0.here hx rfl (hb hby at_45) rfl ?_
                  show Steps p.tables e below (s₁.setTop (mkF m 47 #[.val (.int p1), .val (.int p2), .val (.int (6 : Int32)), .val (.int (((1 : Int32) <<< ((24 : Int32) &&& 31)) - (1 : Int32))), .val (.int (p1 ||| ((286331153 : Int32) &&& (((1 : Int32) <<< ((24 : Int32) &&& 31)) - (1 : Int32))))), .unset, .unset, .unset] [(.int (p1 ||| ((286331153 : Int32) &&& (((1 : Int32) <<< ((24 : Int32) &&& 31)) - (1 : Int32)))))])) _
                  refine XS.bipush X0.here hx rfl (hb hby at_47) ?_
                  show Steps p.tables e below (s₁.setTop (mkF m 49 #[.val (.int p1), .val (.int p2), .val (.int (6 : Int32)), .val (.int (((1 : Int32) <<< ((24 : Int32) &&& 31)) - (1 : Int32))), .val (.int (p1 ||| ((286331153 : Int32) &&& (((1 : Int32) <<< ((24 : Int32) &&& 31)) - (1 : Int32))))), .unset, .unset, .unset] [(.int (15 : Int32)), (.int (p1 ||| ((286331153 : Int32) &&& (((1 : Int32) <<< ((24 : Int32) &&& 31)) - (1 : Int32)))))])) _
                  refine XS.iconst X0.here hx rfl (hb hby at_49) ?_
                  show Steps p.tables e below (s₁.setTop (mkF m 50 #[.val (.int p1), .val (.int p2), .val (.int (6 : Int32)), .val (.int (((1 : Int32) <<< ((24 : Int32) &&& 31)) - (1 : Int32))), .val (.int (p1 ||| ((286331153 : Int32) &&& (((1 : Int32) <<< ((24 : Int32) &&& 31)) - (1 : Int32))))), .unset, .unset, .unset] [(.int (4 : Int32)), (.int (15 : Int32)), (.int (p1 ||| ((286331153 : Int32) &&& (((1 : Int32) <<< ((24 : Int32) &&& 31)) - (1 : Int32)))))])) _
                  refine XS.iloadN X0.here hx rfl (hb hby at_50) rfl ?_
                  show Steps p.tables e below (s₁.setTop (mkF m 51 #[.val (.int p1), .val (.int p2), .val (.int (6 : Int32)), .val (.int (((1 : Int32) <<< ((24 : Int32) &&& 31)) - (1 : Int32))), .val (.int (p1 ||| ((286331153 : Int32) &&& (((1 : Int32) <<< ((24 : Int32) &&& 31)) - (1 : Int32))))), .unset, .unset, .unset] [(.int (6 : Int32)), (.int (4 : Int32)), (.int (15 : Int32)), (.int (p1 ||| ((286331153 : Int32) &&& (((1 : Int32) <<< ((24 : Int32) &&& 31)) - (1 : Int32)))))])) _
                  refine XS.imul X0.here hx rfl (hb hby at_51) rfl ?_
                  show Steps p.tables e below (s₁.setTop (mkF m 52 #[.val (.int p1), .val (.int p2), .val (.int (6 : Int32)), .val (.int (((1 : Int32) <<< ((24 : Int32) &&& 31)) - (1 : Int32))), .val (.int (p1 ||| ((286331153 : Int32) &&& (((1 : Int32) <<< ((24 : Int32) &&& 31)) - (1 : Int32))))), .unset, .unset, .unset] [(.int (24 : Int32)), (.int (15 : Int32)), (.int (p1 ||| ((286331153 : Int32) &&& (((1 : Int32) <<< ((24 : Int32) &&& 31)) - (1 : Int32)))))])) _
                  refine XS.ishl X0.here hx rfl (hb hby at_52) rfl ?_
                  show Steps p.tables e below (s₁.setTop (mkF m 53 #[.val (.int p1), .val (.int p2), .val (.int (6 : Int32)), .val (.int (((1 : Int32) <<< ((24 : Int32) &&& 31)) - (1 : Int32))), .val (.int (p1 ||| ((286331153 : Int32) &&& (((1 : Int32) <<< ((24 : Int32) &&& 31)) - (1 : Int32))))), .unset, .unset, .unset] [(.int ((15 : Int32) <<< ((24 : Int32) &&& 31))), (.int (p1 ||| ((286331153 : Int32) &&& (((1 : Int32) <<< ((24 : Int32) &&& 31)) - (1 : Int32)))))])) _
                  refine XS.iconst X0.here hx rfl (hb hby at_53) ?_
                  show Steps p.tables e below (s₁.setTop (mkF m 54 #[.val (.int p1), .val (.int p2), .val (.int (6 : Int32)), .val (.int (((1 : Int32) <<< ((24 : Int32) &&& 31)) - (1 : Int32))), .val (.int (p1 ||| ((286331153 : Int32) &&& (((1 : Int32) <<< ((24 : Int32) &&& 31)) - (1 : Int32))))), .unset, .unset, .unset] [(.int (-1 : Int32)), (.int ((15 : Int32) <<< ((24 : Int32) &&& 31))), (.int (p1 ||| ((286331153 : Int32) &&& (((1 : Int32) <<< ((24 : Int32) &&& 31)) - (1 : Int32)))))])) _
                  refine XS.ixor X0.here hx rfl (hb hby at_54) rfl ?_
                  show Steps p.tables e below (s₁.setTop (mkF m 55 #[.val (.int p1), .val (.int p2), .val (.int (6 : Int32)), .val (.int (((1 : Int32) <<< ((24 : Int32) &&& 31)) - (1 : Int32))), .val (.int (p1 ||| ((286331153 : Int32) &&& (((1 : Int32) <<< ((24 : Int32) &&& 31)) - (1 : Int32))))), .unset, .unset, .unset] [(.int (((15 : Int32) <<< ((24 : Int32) &&& 31)) ^^^ (-1 : Int32))), (.int (p1 ||| ((286331153 : Int32) &&& (((1 : Int32) <<< ((24 : Int32) &&& 31)) - (1 : Int32)))))])) _
                  refine XS.iand X0.here hx rfl (hb hby at_55) rfl ?_
                  show Steps p.tables e below (s₁.setTop (mkF m 56 #[.val (.int p1), .val (.int p2), .val (.int (6 : Int32)), .val (.int (((1 : Int32) <<< ((24 : Int32) &&& 31)) - (1 : Int32))), .val (.int (p1 ||| ((286331153 : Int32) &&& (((1 : Int32) <<< ((24 : Int32) &&& 31)) - (1 : Int32))))), .unset, .unset, .unset] [(.int ((p1 ||| ((286331153 : Int32) &&& (((1 : Int32) <<< ((24 : Int32) &&& 31)) - (1 : Int32)))) &&& (((15 : Int32) <<< ((24 : Int32) &&& 31)) ^^^ (-1 : Int32))))])) _
                  refine XS.istore X0.here hx rfl (hb hby at_56) rfl (l' := #[.val (.int p1), .val (.int p2), .val (.int (6 : Int32)), .val (.int (((1 : Int32) <<< ((24 : Int32) &&& 31)) - (1 : Int32))), .val (.int (p1 ||| ((286331153 : Int32) &&& (((1 : Int32) <<< ((24 : Int32) &&& 31)) - (1 : Int32))))), .val (.int ((p1 ||| ((286331153 : Int32) &&& (((1 : Int32) <<< ((24 : Int32) &&& 31)) - (1 : Int32)))) &&& (((15 : Int32) <<< ((24 : Int32) &&& 31)) ^^^ (-1 : Int32)))), .unset, .unset]) rfl ?_
                  show Steps p.tables e below (s₁.setTop (mkF m 58 #[.val (.int p1), .val (.int p2), .val (.int (6 : Int32)), .val (.int (((1 : Int32) <<< ((24 : Int32) &&& 31)) - (1 : Int32))), .val (.int (p1 ||| ((286331153 : Int32) &&& (((1 : Int32) <<< ((24 : Int32) &&& 31)) - (1 : Int32))))), .val (.int ((p1 ||| ((286331153 : Int32) &&& (((1 : Int32) <<< ((24 : Int32) &&& 31)) - (1 : Int32)))) &&& (((15 : Int32) <<< ((24 : Int32) &&& 31)) ^^^ (-1 : Int32)))), .unset, .unset] [])) _
                  refine XS.iloadN X0.here hx rfl (hb hby at_58) rfl ?_
                  show Steps p.tables e below (s₁.setTop (mkF m 59 #[.val (.int p1), .val (.int p2), .val (.int (6 : Int32)), .val (.int (((1 : Int32) <<< ((24 : Int32) &&& 31)) - (1 : Int32))), .val (.int (p1 ||| ((286331153 : Int32) &&& (((1 : Int32) <<< ((24 : Int32) &&& 31)) - (1 : Int32))))), .val (.int ((p1 ||| ((286331153 : Int32) &&& (((1 : Int32) <<< ((24 : Int32) &&& 31)) - (1 : Int32)))) &&& (((15 : Int32) <<< ((24 : Int32) &&& 31)) ^^^ (-1 : Int32)))), .unset, .unset] [(.int p1)])) _
                  refine st75 _ ?_
                  show Steps p.tables e below (T75.setTop (mkF m 62 #[.val (.int p1), .val (.int p2), .val (.int (6 : Int32)), .val (.int (((1 : Int32) <<< ((24 : Int32) &&& 31)) - (1 : Int32))), .val (.int (p1 ||| ((286331153 : Int32) &&& (((1 : Int32) <<< ((24 : Int32) &&& 31)) - (1 : Int32))))), .val (.int ((p1 ||| ((286331153 : Int32) &&& (((1 : Int32) <<< ((24 : Int32) &&& 31)) - (1 : Int32)))) &&& (((15 : Int32) <<< ((24 : Int32) &&& 31)) ^^^ (-1 : Int32)))), .unset, .unset] [(.int (own_f1 p1))])) _
                  refine XS.iloadN X75.here hx rfl (hb hby at_62) rfl ?_
                  show Steps p.tables e below (T75.setTop (mkF m 63 #[.val (.int p1), .val (.int p2), .val (.int (6 : Int32)), .val (.int (((1 : Int32) <<< ((24 : Int32) &&& 31)) - (1 : Int32))), .val (.int (p1 ||| ((286331153 : Int32) &&& (((1 : Int32) <<< ((24 : Int32) &&& 31)) - (1 : Int32))))), .val (.int ((p1 ||| ((286331153 : Int32) &&& (((1 : Int32) <<< ((24 : Int32) &&& 31)) - (1 : Int32)))) &&& (((15 : Int32) <<< ((24 : Int32) &&& 31)) ^^^ (-1 : Int32)))), .unset, .unset] [(.int p1), (.int (own_f1 p1))])) _
                  refine st77 _ ?_
                  exact kt
                by_cases hc26 : (own_f1 p1) = (own_f2 p1)
                ·
                  obtain ⟨v80, _, ⟨T80, L80, k80, n80⟩, -, X80, ⟨Lc80, hQ80, l80, y80, z80⟩, st80⟩ := Jvm.LawKit.callS X77 hx (y := (⟨"com/example/kerb/kerb/txn/SoleLocks", "length", "(I)I"⟩ : MethodName)) hown (mvT hZ (hw _ (List.mem_of_getElem? (i := 2) rfl))) (mvT hZ (hw _ (List.mem_of_getElem? (i := 3) rfl))) (mvT hZ (hw _ (List.mem_of_getElem? (i := 4) rfl))) (mvT hZ (hw _ (List.mem_of_getElem? (i := 5) rfl))) (by decide) (backOf (W := 0) (own_rm1 l Z a0 hw [] ((p1 ||| ((286331153 : Int32) &&& (((1 : Int32) <<< ((24 : Int32) &&& 31)) - (1 : Int32)))) &&& (((15 : Int32) <<< ((24 : Int32) &&& 31)) ^^^ (-1 : Int32))) h0 n0 Z0) hZ (hw _ (List.mem_of_getElem? (i := 5) rfl)) (hw _ (List.mem_of_getElem? (i := 4) rfl)) (by decide) (by decide)) (g := (mkF m 78 #[.val (.int p1), .val (.int p2), .val (.int (6 : Int32)), .val (.int (((1 : Int32) <<< ((24 : Int32) &&& 31)) - (1 : Int32))), .val (.int (p1 ||| ((286331153 : Int32) &&& (((1 : Int32) <<< ((24 : Int32) &&& 31)) - (1 : Int32))))), .val (.int ((p1 ||| ((286331153 : Int32) &&& (((1 : Int32) <<< ((24 : Int32) &&& 31)) - (1 : Int32)))) &&& (((15 : Int32) <<< ((24 : Int32) &&& 31)) ^^^ (-1 : Int32)))), .val (.int (1 : Int32)), .unset] [(.int ((p1 ||| ((286331153 : Int32) &&& (((1 : Int32) <<< ((24 : Int32) &&& 31)) - (1 : Int32)))) &&& (((15 : Int32) <<< ((24 : Int32) &&& 31)) ^^^ (-1 : Int32))))])) rfl (by rw [hml]; rfl) (argsL := [(.int ((p1 ||| ((286331153 : Int32) &&& (((1 : Int32) <<< ((24 : Int32) &&& 31)) - (1 : Int32)))) &&& (((15 : Int32) <<< ((24 : Int32) &&& 31)) ^^^ (-1 : Int32))))]) (rest := []) (lenOf own_pd69 rfl) rfl (by show 2 * 0 + _ ≤ _; exact Nat.le_of_eq rfl) (hb hby at_78) (fun _ _ => ⟨rfl, e77, (by decide : 0 + 0 ≤ _), (by decide : 0 + 0 ≤ _)⟩)
                  dsimp only [Pt.U, Pt.locs, Pt.cells, Pt.slots] at X80 l80 y80 z80 st80 hQ80
                  subst l80 y80 z80
                  obtain ⟨rfl, N80q, e80⟩ := hQ80
                  have N81 := Fr.app N78 N80q
                  have k82 : ∀ t, Steps p.tables e below (T80.setTop (mkF m 82 #[.val (.int p1), .val (.int p2), .val (.int (6 : Int32)), .val (.int (((1 : Int32) <<< ((24 : Int32) &&& 31)) - (1 : Int32))), .val (.int (p1 ||| ((286331153 : Int32) &&& (((1 : Int32) <<< ((24 : Int32) &&& 31)) - (1 : Int32))))), .val (.int ((p1 ||| ((286331153 : Int32) &&& (((1 : Int32) <<< ((24 : Int32) &&& 31)) - (1 : Int32)))) &&& (((15 : Int32) <<< ((24 : Int32) &&& 31)) ^^^ (-1 : Int32)))), .val (.int (1 : Int32)), .unset] [(.int (6 : Int32)), (.int (own_f1 ((p1 ||| ((286331153 : Int32) &&& (((1 : Int32) <<< ((24 : Int32) &&& 31)) - (1 : Int32)))) &&& (((15 : Int32) <<< ((24 : Int32) &&& 31)) ^^^ (-1 : Int32)))))])) t → Steps p.tables e below (s₁.setTop (entryFrame m #[(.int p1), (.int p2)] maxLocals)) t := by
                    intro t kt
                    refine k79 t ?_
                    show Steps p.tables e below (T77.setTop (mkF m 66 #[.val (.int p1), .val (.int p2), .val (.int (6 : Int32)), .val (.int (((1 : Int32) <<< ((24 : Int32) &&& 31)) - (1 : Int32))), .val (.int (p1 ||| ((286331153 : Int32) &&& (((1 : Int32) <<< ((24 : Int32) &&& 31)) - (1 : Int32))))), .val (.int ((p1 ||| ((286331153 : Int32) &&& (((1 : Int32) <<< ((24 : Int32) &&& 31)) - (1 : Int32)))) &&& (((15 : Int32) <<< ((24 : Int32) &&& 31)) ^^^ (-1 : Int32)))), .unset, .unset] [(.int (own_f2 p1)), (.int (own_f1 p1))])) _
                    refine XS.icmpNo X77.here hx rfl (hb hby at_66) rfl (teq hc26).2 ?_
                    show Steps p.tables e below (T77.setTop (mkF m 69 #[.val (.int p1), .val (.int p2), .val (.int (6 : Int32)), .val (.int (((1 : Int32) <<< ((24 : Int32) &&& 31)) - (1 : Int32))), .val (.int (p1 ||| ((286331153 : Int32) &&& (((1 : Int32) <<< ((24 : Int32) &&& 31)) - (1 : Int32))))), .val (.int ((p1 ||| ((286331153 : Int32) &&& (((1 : Int32) <<< ((24 : Int32) &&& 31)) - (1 : Int32)))) &&& (((15 : Int32) <<< ((24 : Int32) &&& 31)) ^^^ (-1 : Int32)))), .unset, .unset] [])) _
                    refine XS.iconst X77.here hx rfl (hb hby at_69) ?_
                    show Steps p.tables e below (T77.setTop (mkF m 70 #[.val (.int p1), .val (.int p2), .val (.int (6 : Int32)), .val (.int (((1 : Int32) <<< ((24 : Int32) &&& 31)) - (1 : Int32))), .val (.int (p1 ||| ((286331153 : Int32) &&& (((1 : Int32) <<< ((24 : Int32) &&& 31)) - (1 : Int32))))), .val (.int ((p1 ||| ((286331153 : Int32) &&& (((1 : Int32) <<< ((24 : Int32) &&& 31)) - (1 : Int32)))) &&& (((15 : Int32) <<< ((24 : Int32) &&& 31)) ^^^ (-1 : Int32)))), .unset, .unset] [(.int (1 : Int32))])) _
                    refine XS.goto X77.here hx rfl (pc0 := 70) (pc' := 74) rfl (hb hby at_70) (by decide) (by decide) ?_
                    show Steps p.tables e below (T77.setTop (mkF m 74 #[.val (.int p1), .val (.int p2), .val (.int (6 : Int32)), .val (.int (((1 : Int32) <<< ((24 : Int32) &&& 31)) - (1 : Int32))), .val (.int (p1 ||| ((286331153 : Int32) &&& (((1 : Int32) <<< ((24 : Int32) &&& 31)) - (1 : Int32))))), .val (.int ((p1 ||| ((286331153 : Int32) &&& (((1 : Int32) <<< ((24 : Int32) &&& 31)) - (1 : Int32)))) &&& (((15 : Int32) <<< ((24 : Int32) &&& 31)) ^^^ (-1 : Int32)))), .unset, .unset] [(.int (1 : Int32))])) _
                    refine XS.istore X77.here hx rfl (hb hby at_74) rfl (l' := #[.val (.int p1), .val (.int p2), .val (.int (6 : Int32)), .val (.int (((1 : Int32) <<< ((24 : Int32) &&& 31)) - (1 : Int32))), .val (.int (p1 ||| ((286331153 : Int32) &&& (((1 : Int32) <<< ((24 : Int32) &&& 31)) - (1 : Int32))))), .val (.int ((p1 ||| ((286331153 : Int32) &&& (((1 : Int32) <<< ((24 : Int32) &&& 31)) - (1 : Int32)))) &&& (((15 : Int32) <<< ((24 : Int32) &&& 31)) ^^^ (-1 : Int32)))), .val (.int (1 : Int32)), .unset]) rfl ?_
                    show Steps p.tables e below (T77.setTop (mkF m 76 #[.val (.int p1), .val (.int p2), .val (.int (6 : Int32)), .val (.int (((1 : Int32) <<< ((24 : Int32) &&& 31)) - (1 : Int32))), .val (.int (p1 ||| ((286331153 : Int32) &&& (((1 : Int32) <<< ((24 : Int32) &&& 31)) - (1 : Int32))))), .val (.int ((p1 ||| ((286331153 : Int32) &&& (((1 : Int32) <<< ((24 : Int32) &&& 31)) - (1 : Int32)))) &&& (((15 : Int32) <<< ((24 : Int32) &&& 31)) ^^^ (-1 : Int32)))), .val (.int (1 : Int32)), .unset] [])) _
                    refine XS.iload X77.here hx rfl (hb hby at_76) rfl ?_
                    show Steps p.tables e below (T77.setTop (mkF m 78 #[.val (.int p1), .val (.int p2), .val (.int (6 : Int32)), .val (.int (((1 : Int32) <<< ((24 : Int32) &&& 31)) - (1 : Int32))), .val (.int (p1 ||| ((286331153 : Int32) &&& (((1 : Int32) <<< ((24 : Int32) &&& 31)) - (1 : Int32))))), .val (.int ((p1 ||| ((286331153 : Int32) &&& (((1 : Int32) <<< ((24 : Int32) &&& 31)) - (1 : Int32)))) &&& (((15 : Int32) <<< ((24 : Int32) &&& 31)) ^^^ (-1 : Int32)))), .val (.int (1 : Int32)), .unset] [(.int ((p1 ||| ((286331153 : Int32) &&& (((1 : Int32) <<< ((24 : Int32) &&& 31)) - (1 : Int32)))) &&& (((15 : Int32) <<< ((24 : Int32) &&& 31)) ^^^ (-1 : Int32))))])) _
                    refine st80 _ ?_
                    show Steps p.tables e below (T80.setTop (mkF m 81 #[.val (.int p1), .val (.int p2), .val (.int (6 : Int32)), .val (.int (((1 : Int32) <<< ((24 : Int32) &&& 31)) - (1 : Int32))), .val (.int (p1 ||| ((286331153 : Int32) &&& (((1 : Int32) <<< ((24 : Int32) &&& 31)) - (1 : Int32))))), .val (.int ((p1 ||| ((286331153 : Int32) &&& (((1 : Int32) <<< ((24 : Int32) &&& 31)) - (1 : Int32)))) &&& (((15 : Int32) <<< ((24 : Int32) &&& 31)) ^^^ (-1 : Int32)))), .val (.int (1 : Int32)), .unset] [(.int (own_f1 ((p1 ||| ((286331153 : Int32) &&& (((1 : Int32) <<< ((24 : Int32) &&& 31)) - (1 : Int32)))) &&& (((15 : Int32) <<< ((24 : Int32) &&& 31)) ^^^ (-1 : Int32)))))])) _
                    refine XS.iloadN X80.here hx rfl (hb hby at_81) rfl ?_
                    exact kt
                  by_cases hc27 : (own_f1 ((p1 ||| ((286331153 : Int32) &&& (((1 : Int32) <<< ((24 : Int32) &&& 31)) - (1 : Int32)))) &&& (((15 : Int32) <<< ((24 : Int32) &&& 31)) ^^^ (-1 : Int32)))) = (6 : Int32)
                  ·
                    obtain ⟨fs, hr, hrun, hended, hW, hsame⟩ := X80.leave (v := some (.int (1 : Int32))) (fun h => by rw [Bd.returns] at h; cases h)
                    refine ⟨_, _, k82 _ ?_, hrun, hended, _, _, rfl, ?_, ⟨_, rfl⟩, hW, hsame.mono (by decide) (by decide)⟩
                    · show Steps p.tables e below (T80.setTop (mkF m 82 #[.val (.int p1), .val (.int p2), .val (.int (6 : Int32)), .val (.int (((1 : Int32) <<< ((24 : Int32) &&& 31)) - (1 : Int32))), .val (.int (p1 ||| ((286331153 : Int32) &&& (((1 : Int32) <<< ((24 : Int32) &&& 31)) - (1 : Int32))))), .val (.int ((p1 ||| ((286331153 : Int32) &&& (((1 : Int32) <<< ((24 : Int32) &&& 31)) - (1 : Int32)))) &&& (((15 : Int32) <<< ((24 : Int32) &&& 31)) ^^^ (-1 : Int32)))), .val (.int (1 : Int32)), .unset] [(.int (6 : Int32)), (.int (own_f1 ((p1 ||| ((286331153 : Int32) &&& (((1 : Int32) <<< ((24 : Int32) &&& 31)) - (1 : Int32)))) &&& (((15 : Int32) <<< ((24 : Int32) &&& 31)) ^^^ (-1 : Int32)))))])) _
                      refine XS.icmpNo X80.here hx rfl (hb hby at_82) rfl (teq hc27).2 ?_
                      show Steps p.tables e below (T80.setTop (mkF m 85 #[.val (.int p1), .val (.int p2), .val (.int (6 : Int32)), .val (.int (((1 : Int32) <<< ((24 : Int32) &&& 31)) - (1 : Int32))), .val (.int (p1 ||| ((286331153 : Int32) &&& (((1 : Int32) <<< ((24 : Int32) &&& 31)) - (1 : Int32))))), .val (.int ((p1 ||| ((286331153 : Int32) &&& (((1 : Int32) <<< ((24 : Int32) &&& 31)) - (1 : Int32)))) &&& (((15 : Int32) <<< ((24 : Int32) &&& 31)) ^^^ (-1 : Int32)))), .val (.int (1 : Int32)), .unset] [])) _
                      refine XS.iconst X80.here hx rfl (hb hby at_85) ?_
                      show Steps p.tables e below (T80.setTop (mkF m 86 #[.val (.int p1), .val (.int p2), .val (.int (6 : Int32)), .val (.int (((1 : Int32) <<< ((24 : Int32) &&& 31)) - (1 : Int32))), .val (.int (p1 ||| ((286331153 : Int32) &&& (((1 : Int32) <<< ((24 : Int32) &&& 31)) - (1 : Int32))))), .val (.int ((p1 ||| ((286331153 : Int32) &&& (((1 : Int32) <<< ((24 : Int32) &&& 31)) - (1 : Int32)))) &&& (((15 : Int32) <<< ((24 : Int32) &&& 31)) ^^^ (-1 : Int32)))), .val (.int (1 : Int32)), .unset] [(.int (1 : Int32))])) _
                      refine XS.goto X80.here hx rfl (pc0 := 86) (pc' := 90) rfl (hb hby at_86) (by decide) (by decide) ?_
                      show Steps p.tables e below (T80.setTop (mkF m 90 #[.val (.int p1), .val (.int p2), .val (.int (6 : Int32)), .val (.int (((1 : Int32) <<< ((24 : Int32) &&& 31)) - (1 : Int32))), .val (.int (p1 ||| ((286331153 : Int32) &&& (((1 : Int32) <<< ((24 : Int32) &&& 31)) - (1 : Int32))))), .val (.int ((p1 ||| ((286331153 : Int32) &&& (((1 : Int32) <<< ((24 : Int32) &&& 31)) - (1 : Int32)))) &&& (((15 : Int32) <<< ((24 : Int32) &&& 31)) ^^^ (-1 : Int32)))), .val (.int (1 : Int32)), .unset] [(.int (1 : Int32))])) _
                      refine XS.istore X80.here hx rfl (hb hby at_90) rfl (l' := #[.val (.int p1), .val (.int p2), .val (.int (6 : Int32)), .val (.int (((1 : Int32) <<< ((24 : Int32) &&& 31)) - (1 : Int32))), .val (.int (p1 ||| ((286331153 : Int32) &&& (((1 : Int32) <<< ((24 : Int32) &&& 31)) - (1 : Int32))))), .val (.int ((p1 ||| ((286331153 : Int32) &&& (((1 : Int32) <<< ((24 : Int32) &&& 31)) - (1 : Int32)))) &&& (((15 : Int32) <<< ((24 : Int32) &&& 31)) ^^^ (-1 : Int32)))), .val (.int (1 : Int32)), .val (.int (1 : Int32))]) rfl ?_
                      show Steps p.tables e below (T80.setTop (mkF m 92 #[.val (.int p1), .val (.int p2), .val (.int (6 : Int32)), .val (.int (((1 : Int32) <<< ((24 : Int32) &&& 31)) - (1 : Int32))), .val (.int (p1 ||| ((286331153 : Int32) &&& (((1 : Int32) <<< ((24 : Int32) &&& 31)) - (1 : Int32))))), .val (.int ((p1 ||| ((286331153 : Int32) &&& (((1 : Int32) <<< ((24 : Int32) &&& 31)) - (1 : Int32)))) &&& (((15 : Int32) <<< ((24 : Int32) &&& 31)) ^^^ (-1 : Int32)))), .val (.int (1 : Int32)), .val (.int (1 : Int32))] [])) _
                      refine XS.iload X80.here hx rfl (hb hby at_92) rfl ?_
                      show Steps p.tables e below (T80.setTop (mkF m 94 #[.val (.int p1), .val (.int p2), .val (.int (6 : Int32)), .val (.int (((1 : Int32) <<< ((24 : Int32) &&& 31)) - (1 : Int32))), .val (.int (p1 ||| ((286331153 : Int32) &&& (((1 : Int32) <<< ((24 : Int32) &&& 31)) - (1 : Int32))))), .val (.int ((p1 ||| ((286331153 : Int32) &&& (((1 : Int32) <<< ((24 : Int32) &&& 31)) - (1 : Int32)))) &&& (((15 : Int32) <<< ((24 : Int32) &&& 31)) ^^^ (-1 : Int32)))), .val (.int (1 : Int32)), .val (.int (1 : Int32))] [(.int (1 : Int32))])) _
                      refine XS.ifNo X80.here hx rfl (hb hby at_94) rfl ((if0 _ _).trans (feq (by decide : ¬ ((1 : Int32) = (0 : Int32)))).1) ?_
                      show Steps p.tables e below (T80.setTop (mkF m 97 #[.val (.int p1), .val (.int p2), .val (.int (6 : Int32)), .val (.int (((1 : Int32) <<< ((24 : Int32) &&& 31)) - (1 : Int32))), .val (.int (p1 ||| ((286331153 : Int32) &&& (((1 : Int32) <<< ((24 : Int32) &&& 31)) - (1 : Int32))))), .val (.int ((p1 ||| ((286331153 : Int32) &&& (((1 : Int32) <<< ((24 : Int32) &&& 31)) - (1 : Int32)))) &&& (((15 : Int32) <<< ((24 : Int32) &&& 31)) ^^^ (-1 : Int32)))), .val (.int (1 : Int32)), .val (.int (1 : Int32))] [])) _
                      refine XS.iload X80.here hx rfl (hb hby at_97) rfl ?_
                      show Steps p.tables e below (T80.setTop (mkF m 99 #[.val (.int p1), .val (.int p2), .val (.int (6 : Int32)), .val (.int (((1 : Int32) <<< ((24 : Int32) &&& 31)) - (1 : Int32))), .val (.int (p1 ||| ((286331153 : Int32) &&& (((1 : Int32) <<< ((24 : Int32) &&& 31)) - (1 : Int32))))), .val (.int ((p1 ||| ((286331153 : Int32) &&& (((1 : Int32) <<< ((24 : Int32) &&& 31)) - (1 : Int32)))) &&& (((15 : Int32) <<< ((24 : Int32) &&& 31)) ^^^ (-1 : Int32)))), .val (.int (1 : Int32)), .val (.int (1 : Int32))] [(.int (1 : Int32))])) _
                      refine XS.ifNo X80.here hx rfl (hb hby at_99) rfl ((if0 _ _).trans (feq (by decide : ¬ ((1 : Int32) = (0 : Int32)))).1) ?_
                      show Steps p.tables e below (T80.setTop (mkF m 102 #[.val (.int p1), .val (.int p2), .val (.int (6 : Int32)), .val (.int (((1 : Int32) <<< ((24 : Int32) &&& 31)) - (1 : Int32))), .val (.int (p1 ||| ((286331153 : Int32) &&& (((1 : Int32) <<< ((24 : Int32) &&& 31)) - (1 : Int32))))), .val (.int ((p1 ||| ((286331153 : Int32) &&& (((1 : Int32) <<< ((24 : Int32) &&& 31)) - (1 : Int32)))) &&& (((15 : Int32) <<< ((24 : Int32) &&& 31)) ^^^ (-1 : Int32)))), .val (.int (1 : Int32)), .val (.int (1 : Int32))] [])) _
                      refine XS.iconst X80.here hx rfl (hb hby at_102) ?_
                      show Steps p.tables e below (T80.setTop (mkF m 103 #[.val (.int p1), .val (.int p2), .val (.int (6 : Int32)), .val (.int (((1 : Int32) <<< ((24 : Int32) &&& 31)) - (1 : Int32))), .val (.int (p1 ||| ((286331153 : Int32) &&& (((1 : Int32) <<< ((24 : Int32) &&& 31)) - (1 : Int32))))), .val (.int ((p1 ||| ((286331153 : Int32) &&& (((1 : Int32) <<< ((24 : Int32) &&& 31)) - (1 : Int32)))) &&& (((15 : Int32) <<< ((24 : Int32) &&& 31)) ^^^ (-1 : Int32)))), .val (.int (1 : Int32)), .val (.int (1 : Int32))] [(.int (1 : Int32))])) _
                      refine XS.goto X80.here hx rfl (pc0 := 103) (pc' := 107) rfl (hb hby at_103) (by decide) (by decide) ?_
                      show Steps p.tables e below (T80.setTop (mkF m 107 #[.val (.int p1), .val (.int p2), .val (.int (6 : Int32)), .val (.int (((1 : Int32) <<< ((24 : Int32) &&& 31)) - (1 : Int32))), .val (.int (p1 ||| ((286331153 : Int32) &&& (((1 : Int32) <<< ((24 : Int32) &&& 31)) - (1 : Int32))))), .val (.int ((p1 ||| ((286331153 : Int32) &&& (((1 : Int32) <<< ((24 : Int32) &&& 31)) - (1 : Int32)))) &&& (((15 : Int32) <<< ((24 : Int32) &&& 31)) ^^^ (-1 : Int32)))), .val (.int (1 : Int32)), .val (.int (1 : Int32))] [(.int (1 : Int32))])) _
                      exact retN X80 hx (t := .boolean) Bd.returns (by simp) (hb hby at_107) hr
                    · show own_Q0 Z p1 p2 h0 n0 _ T80.heap _
                      rw [e80]
                      exact ⟨(by rw [own_f0, if_neg hc1, if_neg hc5, if_neg hc9, if_neg hc13, if_neg hc17, if_neg hc21, if_pos hc25, if_pos hc26, if_pos hc27]), N81⟩
                  ·
                    obtain ⟨fs, hr, hrun, hended, hW, hsame⟩ := X80.leave (v := some (.int (0 : Int32))) (fun h => by rw [Bd.returns] at h; cases h)
                    refine ⟨_, _, k82 _ ?_, hrun, hended, _, _, rfl, ?_, ⟨_, rfl⟩, hW, hsame.mono (by decide) (by decide)⟩
                    · show Steps p.tables e below (T80.setTop (mkF m 82 #[.val (.int p1), .val (.int p2), .val (.int (6 : Int32)), .val (.int (((1 : Int32) <<< ((24 : Int32) &&& 31)) - (1 : Int32))), .val (.int (p1 ||| ((286331153 : Int32) &&& (((1 : Int32) <<< ((24 : Int32) &&& 31)) - (1 : Int32))))), .val (.int ((p1 ||| ((286331153 : Int32) &&& (((1 : Int32) <<< ((24 : Int32) &&& 31)) - (1 : Int32)))) &&& (((15 : Int32) <<< ((24 : Int32) &&& 31)) ^^^ (-1 : Int32)))), .val (.int (1 : Int32)), .unset] [(.int (6 : Int32)), (.int (own_f1 ((p1 ||| ((286331153 : Int32) &&& (((1 : Int32) <<< ((24 : Int32) &&& 31)) - (1 : Int32)))) &&& (((15 : Int32) <<< ((24 : Int32) &&& 31)) ^^^ (-1 : Int32)))))])) _
                      refine XS.icmpYes X80.here hx rfl (pc0 := 82) (pc' := 89) rfl (hb hby at_82) rfl (feq hc27).2 (by decide) (by decide) ?_
                      show Steps p.tables e below (T80.setTop (mkF m 89 #[.val (.int p1), .val (.int p2), .val (.int (6 : Int32)), .val (.int (((1 : Int32) <<< ((24 : Int32) &&& 31)) - (1 : Int32))), .val (.int (p1 ||| ((286331153 : Int32) &&& (((1 : Int32) <<< ((24 : Int32) &&& 31)) - (1 : Int32))))), .val (.int ((p1 ||| ((286331153 : Int32) &&& (((1 : Int32) <<< ((24 : Int32) &&& 31)) - (1 : Int32)))) &&& (((15 : Int32) <<< ((24 : Int32) &&& 31)) ^^^ (-1 : Int32)))), .val (.int (1 : Int32)), .unset] [])) _
                      refine XS.iconst X80.here hx rfl (hb hby at_89) ?_
                      show Steps p.tables e below (T80.setTop (mkF m 90 #[.val (.int p1), .val (.int p2), .val (.int (6 : Int32)), .val (.int (((1 : Int32) <<< ((24 : Int32) &&& 31)) - (1 : Int32))), .val (.int (p1 ||| ((286331153 : Int32) &&& (((1 : Int32) <<< ((24 : Int32) &&& 31)) - (1 : Int32))))), .val (.int ((p1 ||| ((286331153 : Int32) &&& (((1 : Int32) <<< ((24 : Int32) &&& 31)) - (1 : Int32)))) &&& (((15 : Int32) <<< ((24 : Int32) &&& 31)) ^^^ (-1 : Int32)))), .val (.int (1 : Int32)), .unset] [(.int (0 : Int32))])) _
                      refine XS.istore X80.here hx rfl (hb hby at_90) rfl (l' := #[.val (.int p1), .val (.int p2), .val (.int (6 : Int32)), .val (.int (((1 : Int32) <<< ((24 : Int32) &&& 31)) - (1 : Int32))), .val (.int (p1 ||| ((286331153 : Int32) &&& (((1 : Int32) <<< ((24 : Int32) &&& 31)) - (1 : Int32))))), .val (.int ((p1 ||| ((286331153 : Int32) &&& (((1 : Int32) <<< ((24 : Int32) &&& 31)) - (1 : Int32)))) &&& (((15 : Int32) <<< ((24 : Int32) &&& 31)) ^^^ (-1 : Int32)))), .val (.int (1 : Int32)), .val (.int (0 : Int32))]) rfl ?_
                      show Steps p.tables e below (T80.setTop (mkF m 92 #[.val (.int p1), .val (.int p2), .val (.int (6 : Int32)), .val (.int (((1 : Int32) <<< ((24 : Int32) &&& 31)) - (1 : Int32))), .val (.int (p1 ||| ((286331153 : Int32) &&& (((1 : Int32) <<< ((24 : Int32) &&& 31)) - (1 : Int32))))), .val (.int ((p1 ||| ((286331153 : Int32) &&& (((1 : Int32) <<< ((24 : Int32) &&& 31)) - (1 : Int32)))) &&& (((15 : Int32) <<< ((24 : Int32) &&& 31)) ^^^ (-1 : Int32)))), .val (.int (1 : Int32)), .val (.int (0 : Int32))] [])) _
                      refine XS.iload X80.here hx rfl (hb hby at_92) rfl ?_
                      show Steps p.tables e below (T80.setTop (mkF m 94 #[.val (.int p1), .val (.int p2), .val (.int (6 : Int32)), .val (.int (((1 : Int32) <<< ((24 : Int32) &&& 31)) - (1 : Int32))), .val (.int (p1 ||| ((286331153 : Int32) &&& (((1 : Int32) <<< ((24 : Int32) &&& 31)) - (1 : Int32))))), .val (.int ((p1 ||| ((286331153 : Int32) &&& (((1 : Int32) <<< ((24 : Int32) &&& 31)) - (1 : Int32)))) &&& (((15 : Int32) <<< ((24 : Int32) &&& 31)) ^^^ (-1 : Int32)))), .val (.int (1 : Int32)), .val (.int (0 : Int32))] [(.int (1 : Int32))])) _
                      refine XS.ifNo X80.here hx rfl (hb hby at_94) rfl ((if0 _ _).trans (feq (by decide : ¬ ((1 : Int32) = (0 : Int32)))).1) ?_
                      show Steps p.tables e below (T80.setTop (mkF m 97 #[.val (.int p1), .val (.int p2), .val (.int (6 : Int32)), .val (.int (((1 : Int32) <<< ((24 : Int32) &&& 31)) - (1 : Int32))), .val (.int (p1 ||| ((286331153 : Int32) &&& (((1 : Int32) <<< ((24 : Int32) &&& 31)) - (1 : Int32))))), .val (.int ((p1 ||| ((286331153 : Int32) &&& (((1 : Int32) <<< ((24 : Int32) &&& 31)) - (1 : Int32)))) &&& (((15 : Int32) <<< ((24 : Int32) &&& 31)) ^^^ (-1 : Int32)))), .val (.int (1 : Int32)), .val (.int (0 : Int32))] [])) _
                      refine XS.iload X80.here hx rfl (hb hby at_97) rfl ?_
                      show Steps p.tables e below (T80.setTop (mkF m 99 #[.val (.int p1), .val (.int p2), .val (.int (6 : Int32)), .val (.int (((1 : Int32) <<< ((24 : Int32) &&& 31)) - (1 : Int32))), .val (.int (p1 ||| ((286331153 : Int32) &&& (((1 : Int32) <<< ((24 : Int32) &&& 31)) - (1 : Int32))))), .val (.int ((p1 ||| ((286331153 : Int32) &&& (((1 : Int32) <<< ((24 : Int32) &&& 31)) - (1 : Int32)))) &&& (((15 : Int32) <<< ((24 : Int32) &&& 31)) ^^^ (-1 : Int32)))), .val (.int (1 : Int32)), .val (.int (0 : Int32))] [(.int (0 : Int32))])) _
                      refine XS.ifYes X80.here hx rfl (pc0 := 99) (pc' := 106) rfl (hb hby at_99) rfl ((if0 _ _).trans (teq (by decide : (0 : Int32) = (0 : Int32))).1) (by decide) (by decide) ?_
                      show Steps p.tables e below (T80.setTop (mkF m 106 #[.val (.int p1), .val (.int p2), .val (.int (6 : Int32)), .val (.int (((1 : Int32) <<< ((24 : Int32) &&& 31)) - (1 : Int32))), .val (.int (p1 ||| ((286331153 : Int32) &&& (((1 : Int32) <<< ((24 : Int32) &&& 31)) - (1 : Int32))))), .val (.int ((p1 ||| ((286331153 : Int32) &&& (((1 : Int32) <<< ((24 : Int32) &&& 31)) - (1 : Int32)))) &&& (((15 : Int32) <<< ((24 : Int32) &&& 31)) ^^^ (-1 : Int32)))), .val (.int (1 : Int32)), .val (.int (0 : Int32))] [])) _
                      refine XS.iconst X80.here hx rfl (hb hby at_106) ?_
                      show Steps p.tables e below (T80.setTop (mkF m 107 #[.val (.int p1), .val (.int p2), .val (.int (6 : Int32)), .val (.int (((1 : Int32) <<< ((24 : Int32) &&& 31)) - (1 : Int32))), .val (.int (p1 ||| ((286331153 : Int32) &&& (((1 : Int32) <<< ((24 : Int32) &&& 31)) - (1 : Int32))))), .val (.int ((p1 ||| ((286331153 : Int32) &&& (((1 : Int32) <<< ((24 : Int32) &&& 31)) - (1 : Int32)))) &&& (((15 : Int32) <<< ((24 : Int32) &&& 31)) ^^^ (-1 : Int32)))), .val (.int (1 : Int32)), .val (.int (0 : Int32))] [(.int (0 : Int32))])) _
                      exact retN X80 hx (t := .boolean) Bd.returns (by simp) (hb hby at_107) hr
                    · show own_Q0 Z p1 p2 h0 n0 _ T80.heap _
                      rw [e80]
                      exact ⟨(by rw [own_f0, if_neg hc1, if_neg hc5, if_neg hc9, if_neg hc13, if_neg hc17, if_neg hc21, if_pos hc25, if_pos hc26, if_neg hc27]), N81⟩
                ·
                  obtain ⟨v83, _, ⟨T83, L83, k83, n83⟩, -, X83, ⟨Lc83, hQ83, l83, y83, z83⟩, st83⟩ := Jvm.LawKit.callS X77 hx (y := (⟨"com/example/kerb/kerb/txn/SoleLocks", "length", "(I)I"⟩ : MethodName)) hown (mvT hZ (hw _ (List.mem_of_getElem? (i := 2) rfl))) (mvT hZ (hw _ (List.mem_of_getElem? (i := 3) rfl))) (mvT hZ (hw _ (List.mem_of_getElem? (i := 4) rfl))) (mvT hZ (hw _ (List.mem_of_getElem? (i := 5) rfl))) (by decide) (backOf (W := 0) (own_rm1 l Z a0 hw [] ((p1 ||| ((286331153 : Int32) &&& (((1 : Int32) <<< ((24 : Int32) &&& 31)) - (1 : Int32)))) &&& (((15 : Int32) <<< ((24 : Int32) &&& 31)) ^^^ (-1 : Int32))) h0 n0 Z0) hZ (hw _ (List.mem_of_getElem? (i := 5) rfl)) (hw _ (List.mem_of_getElem? (i := 4) rfl)) (by decide) (by decide)) (g := (mkF m 78 #[.val (.int p1), .val (.int p2), .val (.int (6 : Int32)), .val (.int (((1 : Int32) <<< ((24 : Int32) &&& 31)) - (1 : Int32))), .val (.int (p1 ||| ((286331153 : Int32) &&& (((1 : Int32) <<< ((24 : Int32) &&& 31)) - (1 : Int32))))), .val (.int ((p1 ||| ((286331153 : Int32) &&& (((1 : Int32) <<< ((24 : Int32) &&& 31)) - (1 : Int32)))) &&& (((15 : Int32) <<< ((24 : Int32) &&& 31)) ^^^ (-1 : Int32)))), .val (.int (0 : Int32)), .unset] [(.int ((p1 ||| ((286331153 : Int32) &&& (((1 : Int32) <<< ((24 : Int32) &&& 31)) - (1 : Int32)))) &&& (((15 : Int32) <<< ((24 : Int32) &&& 31)) ^^^ (-1 : Int32))))])) rfl (by rw [hml]; rfl) (argsL := [(.int ((p1 ||| ((286331153 : Int32) &&& (((1 : Int32) <<< ((24 : Int32) &&& 31)) - (1 : Int32)))) &&& (((15 : Int32) <<< ((24 : Int32) &&& 31)) ^^^ (-1 : Int32))))]) (rest := []) (lenOf own_pd69 rfl) rfl (by show 2 * 0 + _ ≤ _; exact Nat.le_of_eq rfl) (hb hby at_78) (fun _ _ => ⟨rfl, e77, (by decide : 0 + 0 ≤ _), (by decide : 0 + 0 ≤ _)⟩)
                  dsimp only [Pt.U, Pt.locs, Pt.cells, Pt.slots] at X83 l83 y83 z83 st83 hQ83
                  subst l83 y83 z83
                  obtain ⟨rfl, N83q, e83⟩ := hQ83
                  have N84 := Fr.app N78 N83q
                  have k85 : ∀ t, Steps p.tables e below (T83.setTop (mkF m 82 #[.val (.int p1), .val (.int p2), .val (.int (6 : Int32)), .val (.int (((1 : Int32) <<< ((24 : Int32) &&& 31)) - (1 : Int32))), .val (.int (p1 ||| ((286331153 : Int32) &&& (((1 : Int32) <<< ((24 : Int32) &&& 31)) - (1 : Int32))))), .val (.int ((p1 ||| ((286331153 : Int32) &&& (((1 : Int32) <<< ((24 : Int32) &&& 31)) - (1 : Int32)))) &&& (((15 : Int32) <<< ((24 : Int32) &&& 31)) ^^^ (-1 : Int32)))), .val (.int (0 : Int32)), .unset] [(.int (6 : Int32)), (.int (own_f1 ((p1 ||| ((286331153 : Int32) &&& (((1 : Int32) <<< ((24 : Int32) &&& 31)) - (1 : Int32)))) &&& (((15 : Int32) <<< ((24 : Int32) &&& 31)) ^^^ (-1 : Int32)))))])) t → Steps p.tables e below (s₁.setTop (entryFrame m #[(.int p1), (.int p2)] maxLocals)) t := by
                    intro t kt
                    refine k79 t ?_
                    show Steps p.tables e below (T77.setTop (mkF m 66 #[.val (.int p1), .val (.int p2), .val (.int (6 : Int32)), .val (.int (((1 : Int32) <<< ((24 : Int32) &&& 31)) - (1 : Int32))), .val (.int (p1 ||| ((286331153 : Int32) &&& (((1 : Int32) <<< ((24 : Int32) &&& 31)) - (1 : Int32))))), .val (.int ((p1 ||| ((286331153 : Int32) &&& (((1 : Int32) <<< ((24 : Int32) &&& 31)) - (1 : Int32)))) &&& (((15 : Int32) <<< ((24 : Int32) &&& 31)) ^^^ (-1 : Int32)))), .unset, .unset] [(.int (own_f2 p1)), (.int (own_f1 p1))])) _
                    refine XS.icmpYes X77.here hx rfl (pc0 := 66) (pc' := 73) rfl (hb hby at_66) rfl (feq hc26).2 (by decide) (by decide) ?_
                    show Steps p.tables e below (T77.setTop (mkF m 73 #[.val (.int p1), .val (.int p2), .val (.int (6 : Int32)), .val (.int (((1 : Int32) <<< ((24 : Int32) &&& 31)) - (1 : Int32))), .val (.int (p1 ||| ((286331153 : Int32) &&& (((1 : Int32) <<< ((24 : Int32) &&& 31)) - (1 : Int32))))), .val (.int ((p1 ||| ((286331153 : Int32) &&& (((1 : Int32) <<< ((24 : Int32) &&& 31)) - (1 : Int32)))) &&& (((15 : Int32) <<< ((24 : Int32) &&& 31)) ^^^ (-1 : Int32)))), .unset, .unset] [])) _
                    refine XS.iconst X77.here hx rfl (hb hby at_73) ?_
                    show Steps p.tables e below (T77.setTop (mkF m 74 #[.val (.int p1), .val (.int p2), .val (.int (6 : Int32)), .val (.int (((1 : Int32) <<< ((24 : Int32) &&& 31)) - (1 : Int32))), .val (.int (p1 ||| ((286331153 : Int32) &&& (((1 : Int32) <<< ((24 : Int32) &&& 31)) - (1 : Int32))))), .val (.int ((p1 ||| ((286331153 : Int32) &&& (((1 : Int32) <<< ((24 : Int32) &&& 31)) - (1 : Int32)))) &&& (((15 : Int32) <<< ((24 : Int32) &&& 31)) ^^^ (-1 : Int32)))), .unset, .unset] [(.int (0 : Int32))])) _
                    refine XS.istore X77.here hx rfl (hb hby at_74) rfl (l' := #[.val (.int p1), .val (.int p2), .val (.int (6 : Int32)), .val (.int (((1 : Int32) <<< ((24 : Int32) &&& 31)) - (1 : Int32))), .val (.int (p1 ||| ((286331153 : Int32) &&& (((1 : Int32) <<< ((24 : Int32) &&& 31)) - (1 : Int32))))), .val (.int ((p1 ||| ((286331153 : Int32) &&& (((1 : Int32) <<< ((24 : Int32) &&& 31)) - (1 : Int32)))) &&& (((15 : Int32) <<< ((24 : Int32) &&& 31)) ^^^ (-1 : Int32)))), .val (.int (0 : Int32)), .unset]) rfl ?_
                    show Steps p.tables e below (T77.setTop (mkF m 76 #[.val (.int p1), .val (.int p2), .val (.int (6 : Int32)), .val (.int (((1 : Int32) <<< ((24 : Int32) &&& 31)) - (1 : Int32))), .val (.int (p1 ||| ((286331153 : Int32) &&& (((1 : Int32) <<< ((24 : Int32) &&& 31)) - (1 : Int32))))), .val (.int ((p1 ||| ((286331153 : Int32) &&& (((1 : Int32) <<< ((24 : Int32) &&& 31)) - (1 : Int32)))) &&& (((15 : Int32) <<< ((24 : Int32) &&& 31)) ^^^ (-1 : Int32)))), .val (.int (0 : Int32)), .unset] [])) _
                    refine XS.iload X77.here hx rfl (hb hby at_76) rfl ?_
                    show Steps p.tables e below (T77.setTop (mkF m 78 #[.val (.int p1), .val (.int p2), .val (.int (6 : Int32)), .val (.int (((1 : Int32) <<< ((24 : Int32) &&& 31)) - (1 : Int32))), .val (.int (p1 ||| ((286331153 : Int32) &&& (((1 : Int32) <<< ((24 : Int32) &&& 31)) - (1 : Int32))))), .val (.int ((p1 ||| ((286331153 : Int32) &&& (((1 : Int32) <<< ((24 : Int32) &&& 31)) - (1 : Int32)))) &&& (((15 : Int32) <<< ((24 : Int32) &&& 31)) ^^^ (-1 : Int32)))), .val (.int (0 : Int32)), .unset] [(.int ((p1 ||| ((286331153 : Int32) &&& (((1 : Int32) <<< ((24 : Int32) &&& 31)) - (1 : Int32)))) &&& (((15 : Int32) <<< ((24 : Int32) &&& 31)) ^^^ (-1 : Int32))))])) _
                    refine st83 _ ?_
                    show Steps p.tables e below (T83.setTop (mkF m 81 #[.val (.int p1), .val (.int p2), .val (.int (6 : Int32)), .val (.int (((1 : Int32) <<< ((24 : Int32) &&& 31)) - (1 : Int32))), .val (.int (p1 ||| ((286331153 : Int32) &&& (((1 : Int32) <<< ((24 : Int32) &&& 31)) - (1 : Int32))))), .val (.int ((p1 ||| ((286331153 : Int32) &&& (((1 : Int32) <<< ((24 : Int32) &&& 31)) - (1 : Int32)))) &&& (((15 : Int32) <<< ((24 : Int32) &&& 31)) ^^^ (-1 : Int32)))), .val (.int (0 : Int32)), .unset] [(.int (own_f1 ((p1 ||| ((286331153 : Int32) &&& (((1 : Int32) <<< ((24 : Int32) &&& 31)) - (1 : Int32)))) &&& (((15 : Int32) <<< ((24 : Int32) &&& 31)) ^^^ (-1 : Int32)))))])) _
                    refine XS.iloadN X83.here hx rfl (hb hby at_81) rfl ?_
                    exact kt
                  by_cases hc28 : (own_f1 ((p1 ||| ((286331153 : Int32) &&& (((1 : Int32) <<< ((24 : Int32) &&& 31)) - (1 : Int32)))) &&& (((15 : Int32) <<< ((24 : Int32) &&& 31)) ^^^ (-1 : Int32)))) = (6 : Int32)
                  ·
                    obtain ⟨fs, hr, hrun, hended, hW, hsame⟩ := X83.leave (v := some (.int (0 : Int32))) (fun h => by rw [Bd.returns] at h; cases h)
                    refine ⟨_, _, k85 _ ?_, hrun, hended, _, _, rfl, ?_, ⟨_, rfl⟩, hW, hsame.mono (by decide) (by decide)⟩
                    · show Steps p.tables e below (T83.setTop (mkF m 82 #[.val (.int p1), .val (.int p2), .val (.int (6 : Int32)), .val (.int (((1 : Int32) <<< ((24 : Int32) &&& 31)) - (1 : Int32))), .val (.int (p1 ||| ((286331153 : Int32) &&& (((1 : Int32) <<< ((24 : Int32) &&& 31)) - (1 : Int32))))), .val (.int ((p1 ||| ((286331153 : Int32) &&& (((1 : Int32) <<< ((24 : Int32) &&& 31)) - (1 : Int32)))) &&& (((15 : Int32) <<< ((24 : Int32) &&& 31)) ^^^ (-1 : Int32)))), .val (.int (0 : Int32)), .unset] [(.int (6 : Int32)), (.int (own_f1 ((p1 ||| ((286331153 : Int32) &&& (((1 : Int32) <<< ((24 : Int32) &&& 31)) - (1 : Int32)))) &&& (((15 : Int32) <<< ((24 : Int32) &&& 31)) ^^^ (-1 : Int32)))))])) _
                      refine XS.icmpNo X83.here hx rfl (hb hby at_82) rfl (teq hc28).2 ?_
                      show Steps p.tables e below (T83.setTop (mkF m 85 #[.val (.int p1), .val (.int p2), .val (.int (6 : Int32)), .val (.int (((1 : Int32) <<< ((24 : Int32) &&& 31)) - (1 : Int32))), .val (.int (p1 ||| ((286331153 : Int32) &&& (((1 : Int32) <<< ((24 : Int32) &&& 31)) - (1 : Int32))))), .val (.int ((p1 ||| ((286331153 : Int32) &&& (((1 : Int32) <<< ((24 : Int32) &&& 31)) - (1 : Int32)))) &&& (((15 : Int32) <<< ((24 : Int32) &&& 31)) ^^^ (-1 : Int32)))), .val (.int (0 : Int32)), .unset] [])) _
                      refine XS.iconst X83.here hx rfl (hb hby at_85) ?_
                      show Steps p.tables e below (T83.setTop (mkF m 86 #[.val (.int p1), .val (.int p2), .val (.int (6 : Int32)), .val (.int (((1 : Int32) <<< ((24 : Int32) &&& 31)) - (1 : Int32))), .val (.int (p1 ||| ((286331153 : Int32) &&& (((1 : Int32) <<< ((24 : Int32) &&& 31)) - (1 : Int32))))), .val (.int ((p1 ||| ((286331153 : Int32) &&& (((1 : Int32) <<< ((24 : Int32) &&& 31)) - (1 : Int32)))) &&& (((15 : Int32) <<< ((24 : Int32) &&& 31)) ^^^ (-1 : Int32)))), .val (.int (0 : Int32)), .unset] [(.int (1 : Int32))])) _
                      refine XS.goto X83.here hx rfl (pc0 := 86) (pc' := 90) rfl (hb hby at_86) (by decide) (by decide) ?_
                      show Steps p.tables e below (T83.setTop (mkF m 90 #[.val (.int p1), .val (.int p2), .val (.int (6 : Int32)), .val (.int (((1 : Int32) <<< ((24 : Int32) &&& 31)) - (1 : Int32))), .val (.int (p1 ||| ((286331153 : Int32) &&& (((1 : Int32) <<< ((24 : Int32) &&& 31)) - (1 : Int32))))), .val (.int ((p1 ||| ((286331153 : Int32) &&& (((1 : Int32) <<< ((24 : Int32) &&& 31)) - (1 : Int32)))) &&& (((15 : Int32) <<< ((24 : Int32) &&& 31)) ^^^ (-1 : Int32)))), .val (.int (0 : Int32)), .unset] [(.int (1 : Int32))])) _
                      refine XS.istore X83.here hx rfl (hb hby at_90) rfl (l' := #[.val (.int p1), .val (.int p2), .val (.int (6 : Int32)), .val (.int (((1 : Int32) <<< ((24 : Int32) &&& 31)) - (1 : Int32))), .val (.int (p1 ||| ((286331153 : Int32) &&& (((1 : Int32) <<< ((24 : Int32) &&& 31)) - (1 : Int32))))), .val (.int ((p1 ||| ((286331153 : Int32) &&& (((1 : Int32) <<< ((24 : Int32) &&& 31)) - (1 : Int32)))) &&& (((15 : Int32) <<< ((24 : Int32) &&& 31)) ^^^ (-1 : Int32)))), .val (.int (0 : Int32)), .val (.int (1 : Int32))]) rfl ?_
                      show Steps p.tables e below (T83.setTop (mkF m 92 #[.val (.int p1), .val (.int p2), .val (.int (6 : Int32)), .val (.int (((1 : Int32) <<< ((24 : Int32) &&& 31)) - (1 : Int32))), .val (.int (p1 ||| ((286331153 : Int32) &&& (((1 : Int32) <<< ((24 : Int32) &&& 31)) - (1 : Int32))))), .val (.int ((p1 ||| ((286331153 : Int32) &&& (((1 : Int32) <<< ((24 : Int32) &&& 31)) - (1 : Int32)))) &&& (((15 : Int32) <<< ((24 : Int32) &&& 31)) ^^^ (-1 : Int32)))), .val (.int (0 : Int32)), .val (.int (1 : Int32))] [])) _
                      refine XS.iload X83.here hx rfl (hb hby at_92) rfl ?_
                      show Steps p.tables e below (T83.setTop (mkF m 94 #[.val (.int p1), .val (.int p2), .val (.int (6 : Int32)), .val (.int (((1 : Int32) <<< ((24 : Int32) &&& 31)) - (1 : Int32))), .val (.int (p1 ||| ((286331153 : Int32) &&& (((1 : Int32) <<< ((24 : Int32) &&& 31)) - (1 : Int32))))), .val (.int ((p1 ||| ((286331153 : Int32) &&& (((1 : Int32) <<< ((24 : Int32) &&& 31)) - (1 : Int32)))) &&& (((15 : Int32) <<< ((24 : Int32) &&& 31)) ^^^ (-1 : Int32)))), .val (.int (0 : Int32)), .val (.int (1 : Int32))] [(.int (0 : Int32))])) _
                      refine XS.ifYes X83.here hx rfl (pc0 := 94) (pc' := 106) rfl (hb hby at_94) rfl ((if0 _ _).trans (teq (by decide : (0 : Int32) = (0 : Int32))).1) (by decide) (by decide) ?_
                      show Steps p.tables e below (T83.setTop (mkF m 106 #[.val (.int p1), .val (.int p2), .val (.int (6 : Int32)), .val (.int (((1 : Int32) <<< ((24 : Int32) &&& 31)) - (1 : Int32))), .val (.int (p1 ||| ((286331153 : Int32) &&& (((1 : Int32) <<< ((24 : Int32) &&& 31)) - (1 : Int32))))), .val (.int ((p1 ||| ((286331153 : Int32) &&& (((1 : Int32) <<< ((24 : Int32) &&& 31)) - (1 : Int32)))) &&& (((15 : Int32) <<< ((24 : Int32) &&& 31)) ^^^ (-1 : Int32)))), .val (.int (0 : Int32)), .val (.int (1 : Int32))] [])) _
                      refine XS.iconst X83.here hx rfl (hb hby at_106) ?_
                      show Steps p.tables e below (T83.setTop (mkF m 107 #[.val (.int p1), .val (.int p2), .val (.int (6 : Int32)), .val (.int (((1 : Int32) <<< ((24 : Int32) &&& 31)) - (1 : Int32))), .val (.int (p1 ||| ((286331153 : Int32) &&& (((1 : Int32) <<< ((24 : Int32) &&& 31)) - (1 : Int32))))), .val (.int ((p1 ||| ((286331153 : Int32) &&& (((1 : Int32) <<< ((24 : Int32) &&& 31)) - (1 : Int32)))) &&& (((15 : Int32) <<< ((24 : Int32) &&& 31)) ^^^ (-1 : Int32)))), .val (.int (0 : Int32)), .val (.int (1 : Int32))] [(.int (0 : Int32))])) _
                      exact retN X83 hx (t := .boolean) Bd.returns (by simp) (hb hby at_107) hr
                    · show own_Q0 Z p1 p2 h0 n0 _ T83.heap _
                      rw [e83]
                      exact ⟨(by rw [own_f0, if_neg hc1, if_neg hc5, if_neg hc9, if_neg hc13, if_neg hc17, if_neg hc21, if_pos hc25, if_neg hc26, if_pos hc28]), N84⟩
                  ·
                    obtain ⟨fs, hr, hrun, hended, hW, hsame⟩ := X83.leave (v := some (.int (0 : Int32))) (fun h => by rw [Bd.returns] at h; cases h)
                    refine ⟨_, _, k85 _ ?_, hrun, hended, _, _, rfl, ?_, ⟨_, rfl⟩, hW, hsame.mono (by decide) (by decide)⟩
                    · show Steps p.tables e below (T83.setTop (mkF m 82 #[.val (.int p1), .val (.int p2), .val (.int (6 : Int32)), .val (.int (((1 : Int32) <<< ((24 : Int32) &&& 31)) - (1 : Int32))), .val (.int (p1 ||| ((286331153 : Int32) &&& (((1 : Int32) <<< ((24 : Int32) &&& 31)) - (1 : Int32))))), .val (.int ((p1 ||| ((286331153 : Int32) &&& (((1 : Int32) <<< ((24 : Int32) &&& 31)) - (1 : Int32)))) &&& (((15 : Int32) <<< ((24 : Int32) &&& 31)) ^^^ (-1 : Int32)))), .val (.int (0 : Int32)), .unset] [(.int (6 : Int32)), (.int (own_f1 ((p1 ||| ((286331153 : Int32) &&& (((1 : Int32) <<< ((24 : Int32) &&& 31)) - (1 : Int32)))) &&& (((15 : Int32) <<< ((24 : Int32) &&& 31)) ^^^ (-1 : Int32)))))])) _
                      refine XS.icmpYes X83.here hx rfl (pc0 := 82) (pc' := 89) rfl (hb hby at_82) rfl (feq hc28).2 (by decide) (by decide) ?_
                      show Steps p.tables e below (T83.setTop (mkF m 89 #[.val (.int p1), .val (.int p2), .val (.int (6 : Int32)), .val (.int (((1 : Int32) <<< ((24 : Int32) &&& 31)) - (1 : Int32))), .val (.int (p1 ||| ((286331153 : Int32) &&& (((1 : Int32) <<< ((24 : Int32) &&& 31)) - (1 : Int32))))), .val (.int ((p1 ||| ((286331153 : Int32) &&& (((1 : Int32) <<< ((24 : Int32) &&& 31)) - (1 : Int32)))) &&& (((15 : Int32) <<< ((24 : Int32) &&& 31)) ^^^ (-1 : Int32)))), .val (.int (0 : Int32)), .unset] [])) _
                      refine XS.iconst X83.here hx rfl (hb hby at_89) ?_
                      show Steps p.tables e below (T83.setTop (mkF m 90 #[.val (.int p1), .val (.int p2), .val (.int (6 : Int32)), .val (.int (((1 : Int32) <<< ((24 : Int32) &&& 31)) - (1 : Int32))), .val (.int (p1 ||| ((286331153 : Int32) &&& (((1 : Int32) <<< ((24 : Int32) &&& 31)) - (1 : Int32))))), .val (.int ((p1 ||| ((286331153 : Int32) &&& (((1 : Int32) <<< ((24 : Int32) &&& 31)) - (1 : Int32)))) &&& (((15 : Int32) <<< ((24 : Int32) &&& 31)) ^^^ (-1 : Int32)))), .val (.int (0 : Int32)), .unset] [(.int (0 : Int32))])) _
                      refine XS.istore X83.here hx rfl (hb hby at_90) rfl (l' := #[.val (.int p1), .val (.int p2), .val (.int (6 : Int32)), .val (.int (((1 : Int32) <<< ((24 : Int32) &&& 31)) - (1 : Int32))), .val (.int (p1 ||| ((286331153 : Int32) &&& (((1 : Int32) <<< ((24 : Int32) &&& 31)) - (1 : Int32))))), .val (.int ((p1 ||| ((286331153 : Int32) &&& (((1 : Int32) <<< ((24 : Int32) &&& 31)) - (1 : Int32)))) &&& (((15 : Int32) <<< ((24 : Int32) &&& 31)) ^^^ (-1 : Int32)))), .val (.int (0 : Int32)), .val (.int (0 : Int32))]) rfl ?_
                      show Steps p.tables e below (T83.setTop (mkF m 92 #[.val (.int p1), .val (.int p2), .val (.int (6 : Int32)), .val (.int (((1 : Int32) <<< ((24 : Int32) &&& 31)) - (1 : Int32))), .val (.int (p1 ||| ((286331153 : Int32) &&& (((1 : Int32) <<< ((24 : Int32) &&& 31)) - (1 : Int32))))), .val (.int ((p1 ||| ((286331153 : Int32) &&& (((1 : Int32) <<< ((24 : Int32) &&& 31)) - (1 : Int32)))) &&& (((15 : Int32) <<< ((24 : Int32) &&& 31)) ^^^ (-1 : Int32)))), .val (.int (0 : Int32)), .val (.int (0 : Int32))] [])) _
                      refine XS.iload X83.here hx rfl (hb hby at_92) rfl ?_
                      show Steps p.tables e below (T83.setTop (mkF m 94 #[.val (.int p1), .val (.int p2), .val (.int (6 : Int32)), .val (.int (((1 : Int32) <<< ((24 : Int32) &&& 31)) - (1 : Int32))), .val (.int (p1 ||| ((286331153 : Int32) &&& (((1 : Int32) <<< ((24 : Int32) &&& 31)) - (1 : Int32))))), .val (.int ((p1 ||| ((286331153 : Int32) &&& (((1 : Int32) <<< ((24 : Int32) &&& 31)) - (1 : Int32)))) &&& (((15 : Int32) <<< ((24 : Int32) &&& 31)) ^^^ (-1 : Int32)))), .val (.int (0 : Int32)), .val (.int (0 : Int32))] [(.int (0 : Int32))])) _
                      refine XS.ifYes X83.here hx rfl (pc0 := 94) (pc' := 106) rfl (hb hby at_94) rfl ((if0 _ _).trans (teq (by decide : (0 : Int32) = (0 : Int32))).1) (by decide) (by decide) ?_
                      show Steps p.tables e below (T83.setTop (mkF m 106 #[.val (.int p1), .val (.int p2), .val (.int (6 : Int32)), .val (.int (((1 : Int32) <<< ((24 : Int32) &&& 31)) - (1 : Int32))), .val (.int (p1 ||| ((286331153 : Int32) &&& (((1 : Int32) <<< ((24 : Int32) &&& 31)) - (1 : Int32))))), .val (.int ((p1 ||| ((286331153 : Int32) &&& (((1 : Int32) <<< ((24 : Int32) &&& 31)) - (1 : Int32)))) &&& (((15 : Int32) <<< ((24 : Int32) &&& 31)) ^^^ (-1 : Int32)))), .val (.int (0 : Int32)), .val (.int (0 : Int32))] [])) _
                      refine XS.iconst X83.here hx rfl (hb hby at_106) ?_
                      show Steps p.tables e below (T83.setTop (mkF m 107 #[.val (.int p1), .val (.int p2), .val (.int (6 : Int32)), .val (.int (((1 : Int32) <<< ((24 : Int32) &&& 31)) - (1 : Int32))), .val (.int (p1 ||| ((286331153 : Int32) &&& (((1 : Int32) <<< ((24 : Int32) &&& 31)) - (1 : Int32))))), .val (.int ((p1 ||| ((286331153 : Int32) &&& (((1 : Int32) <<< ((24 : Int32) &&& 31)) - (1 : Int32)))) &&& (((15 : Int32) <<< ((24 : Int32) &&& 31)) ^^^ (-1 : Int32)))), .val (.int (0 : Int32)), .val (.int (0 : Int32))] [(.int (0 : Int32))])) _
                      exact retN X83 hx (t := .boolean) Bd.returns (by simp) (hb hby at_107) hr
                    · show own_Q0 Z p1 p2 h0 n0 _ T83.heap _
                      rw [e83]
                      exact ⟨(by rw [own_f0, if_neg hc1, if_neg hc5, if_neg hc9, if_neg hc13, if_neg hc17, if_neg hc21, if_pos hc25, if_neg hc26, if_neg hc28]), N84⟩
              ·
                by_cases hc29 : ((p2 &&& (2147483647 : Int32)) - ((p2 &&& (2147483647 : Int32)) / (9 : Int32)) * (9 : Int32)) = (7 : Int32)
                ·
                  have k86 : ∀ t, Steps p.tables e below (s₁.setTop (mkF m 7 #[.val (.int p1), .val (.int p2), .unset, .unset, .unset, .unset, .unset, .unset] [(.int (7 : Int32))])) t → Steps p.tables e below (s₁.setTop (entryFrame m #[(.int p1), (.int p2)] maxLocals)) t := by
                    intro t kt
                    refine k1 t ?_
                    rw [hc29]
                    exact kt
                  obtain ⟨v87, _, ⟨T87, L87, k87, n87⟩, -, X87, ⟨Lc87, hQ87, l87, y87, z87⟩, st87⟩ := Jvm.LawKit.callS X0 hx (y := (⟨"com/example/kerb/kerb/txn/SoleLocks", "length", "(I)I"⟩ : MethodName)) hown (mvT hZ (hw _ (List.mem_of_getElem? (i := 2) rfl))) (mvT hZ (hw _ (List.mem_of_getElem? (i := 3) rfl))) (mvT hZ (hw _ (List.mem_of_getElem? (i := 4) rfl))) (mvT hZ (hw _ (List.mem_of_getElem? (i := 5) rfl))) (by decide) (backOf (W := 0) (own_rm1 l Z a0 hw [] p1 h0 n0 Z0) hZ (hw _ (List.mem_of_getElem? (i := 5) rfl)) (hw _ (List.mem_of_getElem? (i := 4) rfl)) (by decide) (by decide)) (g := (mkF m 59 #[.val (.int p1), .val (.int p2), .val (.int (7 : Int32)), .val (.int (((1 : Int32) <<< ((28 : Int32) &&& 31)) - (1 : Int32))), .val (.int (p1 ||| ((286331153 : Int32) &&& (((1 : Int32) <<< ((28 : Int32) &&& 31)) - (1 : Int32))))), .val (.int ((p1 ||| ((286331153 : Int32) &&& (((1 : Int32) <<< ((28 : Int32) &&& 31)) - (1 : Int32)))) &&& (((15 : Int32) <<< ((28 : Int32) &&& 31)) ^^^ (-1 : Int32)))), .unset, .unset] [(.int p1)])) rfl (by rw [hml]; rfl) (argsL := [(.int p1)]) (rest := []) (lenOf own_pd69 rfl) rfl (by show 2 * 0 + _ ≤ _; exact Nat.le_of_eq rfl) (hb hby at_59) (fun _ _ => ⟨rfl, e0, (by decide : 0 + 0 ≤ _), (by decide : 0 + 0 ≤ _)⟩)
                  dsimp only [Pt.U, Pt.locs, Pt.cells, Pt.slots] at X87 l87 y87 z87 st87 hQ87
                  subst l87 y87 z87
                  obtain ⟨rfl, N87q, e87⟩ := hQ87
                  have N88 := Fr.app N0 N87q
                  obtain ⟨v89, _, ⟨T89, L89, k89, n89⟩, -, X89, ⟨Lc89, hQ89, l89, y89, z89⟩, st89⟩ := Jvm.LawKit.callS X87 hx (y := (⟨"com/example/kerb/kerb/txn/SoleLocksLengthPinLaw", "ref", "(I)I"⟩ : MethodName)) hown (mvT hZ (hw _ (List.mem_of_getElem? (i := 6) rfl))) (mvT hZ (hw _ (List.mem_of_getElem? (i := 7) rfl))) (mvT hZ (hw _ (List.mem_of_getElem? (i := 8) rfl))) (mvT hZ (hw _ (List.mem_of_getElem? (i := 9) rfl))) (by decide) (backOf (W := 1) (own_rm2 l Z a0 hw [] p1 h0 n0 Z0) hZ (hw _ (List.mem_of_getElem? (i := 9) rfl)) (hw _ (List.mem_of_getElem? (i := 8) rfl)) (by decide) (by decide)) (g := (mkF m 63 #[.val (.int p1), .val (.int p2), .val (.int (7 : Int32)), .val (.int (((1 : Int32) <<< ((28 : Int32) &&& 31)) - (1 : Int32))), .val (.int (p1 ||| ((286331153 : Int32) &&& (((1 : Int32) <<< ((28 : Int32) &&& 31)) - (1 : Int32))))), .val (.int ((p1 ||| ((286331153 : Int32) &&& (((1 : Int32) <<< ((28 : Int32) &&& 31)) - (1 : Int32)))) &&& (((15 : Int32) <<< ((28 : Int32) &&& 31)) ^^^ (-1 : Int32)))), .unset, .unset] [(.int p1), (.int (own_f1 p1))])) rfl (by rw [hml]; rfl) (argsL := [(.int p1)]) (rest := [(.int (own_f1 p1))]) (lenOf own_pd69 rfl) rfl (by show 2 * 0 + _ ≤ _; exact Nat.le_of_eq rfl) (hb hby at_63) (fun _ _ => ⟨rfl, e87, (by decide : 0 + 0 ≤ _), (by decide : 0 + 0 ≤ _)⟩)
                  dsimp only [Pt.U, Pt.locs, Pt.cells, Pt.slots] at X89 l89 y89 z89 st89 hQ89
                  subst l89 y89 z89
                  obtain ⟨rfl, N89q, e89⟩ := hQ89
                  have N90 := Fr.app N88 N89q
                  have k91 : ∀ t, Steps p.tables e below (T89.setTop (mkF m 66 #[.val (.int p1), .val (.int p2), .val (.int (7 : Int32)), .val (.int (((1 : Int32) <<< ((28 : Int32) &&& 31)) - (1 : Int32))), .val (.int (p1 ||| ((286331153 : Int32) &&& (((1 : Int32) <<< ((28 : Int32) &&& 31)) - (1 : Int32))))), .val (.int ((p1 ||| ((286331153 : Int32) &&& (((1 : Int32) <<< ((28 : Int32) &&& 31)) - (1 : Int32)))) &&& (((15 : Int32) <<< ((28 : Int32) &&& 31)) ^^^ (-1 : Int32)))), .unset, .unset] [(.int (own_f2 p1)), (.int (own_f1 p1))])) t → Steps p.tables e below (s₁.setTop (entryFrame m #[(.int p1), (.int p2)] maxLocals)) t := by
                    intro t kt
                    refine k86 t ?_
                    show Steps p.tables e below (s₁.setTop (mkF m 7 #[.val (.int p1), .val (.int p2), .unset, .unset, .unset, .unset, .unset, .unset] [(.int (7 : Int32))])) _
                    refine XS.istoreN X0.here hx rfl (hb hby at_7) rfl (l' := #[.val (.int p1), .val (.int p2), .val (.int (7 : Int32)), .unset, .unset, .unset, .unset, .unset]) rfl ?_
                    show Steps p.tables e below (s₁.setTop (mkF m 8 #[.val (.int p1), .val (.int p2), .val (.int (7 : Int32)), .unset, .unset, .unset, .unset, .unset] [])) _
                    refine XS.iloadN X0.here hx rfl (hb hby at_8) rfl ?_
                    show Steps p.tables e below (s₁.setTop (mkF m 9 #[.val (.int p1), .val (.int p2), .val (.int (7 : Int32)), .unset, .unset, .unset, .unset, .unset] [(.int (7 : Int32))])) _
                    refine XS.bipush X0.here hx rfl (hb hby at_9) ?_
                    show Steps p.tables e below (s₁.setTop (mkF m 11 #[.val (.int p1), .val (.int p2), .val (.int (7 : Int32)), .unset, .unset, .unset, .unset, .unset] [(.int (8 : Int32)), (.int (7 : Int32))])) _
                    refine XS.icmpYes X0.here hx rfl (pc0 := 11) (pc' := 18) rfl (hb hby at_11) rfl (feq (by decide : ¬ ((7 : Int32) = (8 : Int32)))).2 (by decide) (by decide) ?_
                    show Steps p.tables e below (s₁.setTop (mkF m 18 #[.val (.int p1), .val (.int p2), .val (.int (7 : Int32)), .unset, .unset, .unset, .unset, .unset] [])) _
                    refine XS.iconst X0.here hx rfl (hb hby at_18) ?_
                    show Steps p.tables e below (s₁.setTop (mkF m 19 #[.val (.int p1), .val (.int p2), .val (.int (7 : Int32)), .unset, .unset, .unset, .unset, .unset] [(.int (1 : Int32))])) _
                    refine XS.iconst X0.here hx rfl (hb hby at_19) ?_
                    show Steps p.tables e below (s₁.setTop (mkF m 20 #[.val (.int p1), .val (.int p2), .val (.int (7 : Int32)), .unset, .unset, .unset, .unset, .unset] [(.int (4 : Int32)), (.int (1 : Int32))])) _
                    refine XS.iloadN X0.here hx rfl (hb hby at_20) rfl ?_
                    show Steps p.tables e below (s₁.setTop (mkF m 21 #[.val (.int p1), .val (.int p2), .val (.int (7 : Int32)), .unset, .unset, .unset, .unset, .unset] [(.int (7 : Int32)), (.int (4 : Int32)), (.int (1 : Int32))])) _
                    refine XS.imul X0.here hx rfl (hb hby at_21) rfl ?_
                    show Steps p.tables e below (s₁.setTop (mkF m 22 #[.val (.int p1), .val (.int p2), .val (.int (7 : Int32)), .unset, .unset, .unset, .unset, .unset] [(.int (28 : Int32)), (.int (1 : Int32))])) _
                    refine XS.ishl X0.here hx rfl (hb hby at_22) rfl ?_
                    show Steps p.tables e below (s₁.setTop (mkF m 23 #[.val (.int p1), .val (.int p2), .val (.int (7 : Int32)), .unset, .unset, .unset, .unset, .unset] [(.int ((1 : Int32) <<< ((28 : Int32) &&& 31)))])) _
                    refine XS.iconst X0.here hx rfl (hb hby at_23) ?_
                    show Steps p.tables e below (s₁.setTop (mkF m 24 #[.val (.int p1), .val (.int p2), .val (.int (7 : Int32)), .unset, .unset, .unset, .unset, .unset] [(.int (1 : Int32)), (.int ((1 : Int32) <<< ((28 : Int32) &&& 31)))])) _
                    refine XS.isub X0.here hx rfl (hb hby at_24) rfl ?_
                    show Steps p.tables e below (s₁.setTop (mkF m 25 #[.val (.int p1), .val (.int p2), .val (.int (7 : Int32)), .unset, .unset, .unset, .unset, .unset] [(.int (((1 : Int32) <<< ((28 : Int32) &&& 31)) - (1 : Int32)))])) _
                    refine XS.istoreN X0.here hx rfl (hb hby at_25) rfl (l' := #[.val (.int p1), .val (.int p2), .val (.int (7 : Int32)), .val (.int (((1 : Int32) <<< ((28 : Int32) &&& 31)) - (1 : Int32))), .unset, .unset, .unset, .unset]) rfl ?_
                    show Steps p.tables e below (s₁.setTop (mkF m 26 #[.val (.int p1), .val (.int p2), .val (.int (7 : Int32)), .val (.int (((1 : Int32) <<< ((28 : Int32) &&& 31)) - (1 : Int32))), .unset, .unset, .unset, .unset] [])) _
                    refine XS.iloadN X0.here hx rfl (hb hby at_26) rfl ?_
                    show Steps p.tables e below (s₁.setTop (mkF m 27 #[.val (.int p1), .val (.int p2), .val (.int (7 : Int32)), .val (.int (((1 : Int32) <<< ((28 : Int32) &&& 31)) - (1 : Int32))), .unset, .unset, .unset, .unset] [(.int p1)])) _
                    refine X0.ldcInt hx hown (mvT hZ (hw _ (List.mem_of_getElem? (i := 1) rfl))) (g := (mkF m 27 #[.val (.int p1), .val (.int p2), .val (.int (7 : Int32)), .val (.int (((1 : Int32) <<< ((28 : Int32) &&& 31)) - (1 : Int32))), .unset, .unset, .unset, .unset] [(.int p1)])) rfl (hb hby at_27) _ ?_
                    show Steps p.tables e below (s₁.setTop (mkF m 29 #[.val (.int p1), .val (.int p2), .val (.int (7 : Int32)), .val (.int (((1 : Int32) <<< ((28 : Int32) &&& 31)) - (1 : Int32))), .unset, .unset, .unset, .unset] [(.int (286331153 : Int32)), (.int p1)])) _
                    refine XS.iloadN X0.here hx rfl (hb hby at_29) rfl ?_
                    show Steps p.tables e below (s₁.setTop (mkF m 30 #[.val (.int p1), .val (.int p2), .val (.int (7 : Int32)), .val (.int (((1 : Int32) <<< ((28 : Int32) &&& 31)) - (1 : Int32))), .unset, .unset, .unset, .unset] [(.int (((1 : Int32) <<< ((28 : Int32) &&& 31)) - (1 : Int32))), (.int (286331153 : Int32)), (.int p1)])) _
                    refine XS.iand X0.here hx rfl (hb hby at_30) rfl ?_
                    show Steps p.tables e below (s₁.setTop (mkF m 31 #[.val (.int p1), .val (.int p2), .val (.int (7 : Int32)), .val (.int (((1 : Int32) <<< ((28 : Int32) &&& 31)) - (1 : Int32))), .unset, .unset, .unset, .unset] [(.int ((286331153 : Int32) &&& (((1 : Int32) <<< ((28 : Int32) &&& 31)) - (1 : Int32)))), (.int p1)])) _
                    refine XS.ior X0.here hx rfl (hb hby at_31) rfl ?_
                    show Steps p.tables e below (s₁.setTop (mkF m 32 #[.val (.int p1), .val (.int p2), .val (.int (7 : Int32)), .val (.int (((1 : Int32) <<< ((28 : Int32) &&& 31)) - (1 : Int32))), .unset, .unset, .unset, .unset] [(.int (p1 ||| ((286331153 : Int32) &&& (((1 : Int32) <<< ((28 : Int32) &&& 31)) - (1 : Int32)))))])) _
                    refine XS.istore X0.here hx rfl (hb hby at_32) rfl (l' := #[.val (.int p1), .val (.int p2), .val (.int (7 : Int32)), .val (.int (((1 : Int32) <<< ((28 : Int32) &&& 31)) - (1 : Int32))), .val (.int (p1 ||| ((286331153 : Int32) &&& (((1 : Int32) <<< ((28 : Int32) &&& 31)) - (1 : Int32))))), .unset, .unset, .unset]) rfl ?_
                    show Steps p.tables e below (s₁.setTop (mkF m 34 #[.val (.int p1), .val (.int p2), .val (.int (7 : Int32)), .val (.int (((1 : Int32) <<< ((28 : Int32) &&& 31)) - (1 : Int32))), .val (.int (p1 ||| ((286331153 : Int32) &&& (((1 : Int32) <<< ((28 : Int32) &&& 31)) - (1 : Int32))))), .unset, .unset, .unset] [])) _
                    refine XS.iloadN X0.here hx rfl (hb hby at_34) rfl ?_
                    show Steps p.tables e below (s₁.setTop (mkF m 35 #[.val (.int p1), .val (.int p2), .val (.int (7 : Int32)), .val (.int (((1 : Int32) <<< ((28 : Int32) &&& 31)) - (1 : Int32))), .val (.int (p1 ||| ((286331153 : Int32) &&& (((1 : Int32) <<< ((28 : Int32) &&& 31)) - (1 : Int32))))), .unset, .unset, .unset] [(.int (7 : Int32))])) _
                    refine XS.bipush X0.here hx rfl (hb hby at_35) ?_
                    show Steps p.tables e below (s₁.setTop (mkF m 37 #[.val (.int p1), .val (.int p2), .val (.int (7 : Int32)), .val (.int (((1 : Int32) <<< ((28 : Int32) &&& 31)) - (1 : Int32))), .val (.int (p1 ||| ((286331153 : Int32) &&& (((1 : Int32) <<< ((28 : Int32) &&& 31)) - (1 : Int32))))), .unset, .unset, .unset] [(.int (8 : Int32)), (.int (7 : Int32))])) _
                    refine XS.icmpYes X0.here hx rfl (pc0 := 37) (pc' := 45) rfl (hb hby at_37) rfl (feq (by decide : ¬ ((7 : Int32) = (8 : Int32)))).2 (by decide) (by decide) ?_
                    show Steps p.tables e below (s₁.setTop (mkF m 45 #[.val (.int p1), .val (.int p2), .val (.int (7 : Int32)), .val (.int (((1 : Int32) <<< ((28 : Int32) &&& 31)) - (1 : Int32))), .val (.int (p1 ||| ((286331153 : Int32) &&& (((1 : Int32) <<< ((28 : Int32) &&& 31)) - (1 : Int32))))), .unset, .unset, .unset] [])) _
                    refine XS.iload X0.here hx rfl (hb hby at_45) rfl ?_
                    show Steps p.tables e below (s₁.setTop (mkF m 47 #[.val (.int p1), .val (.int p2), .val (.int (7 : Int32)), .val (.int (((1 : Int32) <<< ((28 : Int32) &&& 31)) - (1 : Int32))), .val (.int (p1 ||| ((286331153 : Int32) &&& (((1 : Int32) <<< ((28 : Int32) &&& 31)) - (1 : Int32))))), .unset, .unset, .unset] [(.int (p1 ||| ((286331153 : Int32) &&& (((1 : Int32) <<< ((28 : Int32) &&& 31)) - (1 : Int32)))))])) _
                    refine XS.bipush X0.here hx rfl (hb hby at_47) ?_
                    show Steps p.tables e below (s₁.setTop (mkF m 49 #[.val (.int p1), .val (.int p2), .val (.int (7 : Int32)), .val (.int (((1 : Int32) <<< ((28 : Int32) &&& 31)) - (1 : Int32))), .val (.int (p1 ||| ((286331153 : Int32) &&& (((1 : Int32) <<< ((28 : Int32) &&& 31)) - (1 : Int32))))), .unset, .unset, .unset] [(.int (15 : Int32)), (.int (p1 ||| ((286331153 : Int32) &&& (((1 : Int32) <<< ((28 : Int32) &&& 31)) - (1 : Int32)))))])) _
                    refine XS.iconst X0.here hx rfl (hb hby at_49) ?_
                    show Steps p.tables e below (s₁.setTop (mkF m 50 #[.val (.int p1), .val (.int p2), .val (.int (7 : Int32)), .val (.int (((1 : Int32) <<< ((28 : Int32) &&& 31)) - (1 : Int32))), .val (.int (p1 ||| ((286331153 : Int32) &&& (((1 : Int32) <<< ((28 : Int32) &&& 31)) - (1 : Int32))))), .unset, .unset, .unset] [(.int (4 : Int32)), (.int (15 : Int32)), (.int (p1 ||| ((286331153 : Int32) &&& (((1 : Int32) <<< ((28 : Int32) &&& 31)) - (1 : Int32)))))])) _
                    refine XS.iloadN X0.here hx rfl (hb hby at_50) rfl ?_
                    show Steps p.tables e below (s₁.setTop (mkF m 51 #[.val (.int p1), .val (.int p2), .val (.int (7 : Int32)), .val (.int (((1 : Int32) <<< ((28 : Int32) &&& 31)) - (1 : Int32))), .val (.int (p1 ||| ((286331153 : Int32) &&& (((1 : Int32) <<< ((28 : Int32) &&& 31)) - (1 : Int32))))), .unset, .unset, .unset] [(.int (7 : Int32)), (.int (4 : Int32)), (.int (15 : Int32)), (.int (p1 ||| ((286331153 : Int32) &&& (((1 : Int32) <<< ((28 : Int32) &&& 31)) - (1 : Int32)))))])) _
                    refine XS.imul X0.here hx rfl (hb hby at_51) rfl ?_
                    show Steps p.tables e below (s₁.setTop (mkF m 52 #[.val (.int p1), .val (.int p2), .val (.int (7 : Int32)), .val (.int (((1 : Int32) <<< ((28 : Int32) &&& 31)) - (1 : Int32))), .val (.int (p1 ||| ((286331153 : Int32) &&& (((1 : Int32) <<< ((28 : Int32) &&& 31)) - (1 : Int32))))), .unset, .unset, .unset] [(.int (28 : Int32)), (.int (15 : Int32)), (.int (p1 ||| ((286331153 : Int32) &&& (((1 : Int32) <<< ((28 : Int32) &&& 31)) - (1 : Int32)))))])) _
                    refine XS.ishl X0.here hx rfl (hb hby at_52) rfl ?_
                    show Steps p.tables e below (s₁.setTop (mkF m 53 #[.val (.int p1), .val (.int p2), .val (.int (7 : Int32)), .val (.int (((1 : Int32) <<< ((28 : Int32) &&& 31)) - (1 : Int32))), .val (.int (p1 ||| ((286331153 : Int32) &&& (((1 : Int32) <<< ((28 : Int32) &&& 31)) - (1 : Int32))))), .unset, .unset, .unset] [(.int ((15 : Int32) <<< ((28 : Int32) &&& 31))), (.int (p1 ||| ((286331153 : Int32) &&& (((1 : Int32) <<< ((28 : Int32) &&& 31)) - (1 : Int32)))))])) _
                    refine XS.iconst X0.here hx rfl (hb hby at_53) ?_
                    show Steps p.tables e below (s₁.setTop (mkF m 54 #[.val (.int p1), .val (.int p2), .val (.int (7 : Int32)), .val (.int (((1 : Int32) <<< ((28 : Int32) &&& 31)) - (1 : Int32))), .val (.int (p1 ||| ((286331153 : Int32) &&& (((1 : Int32) <<< ((28 : Int32) &&& 31)) - (1 : Int32))))), .unset, .unset, .unset] [(.int (-1 : Int32)), (.int ((15 : Int32) <<< ((28 : Int32) &&& 31))), (.int (p1 ||| ((286331153 : Int32) &&& (((1 : Int32) <<< ((28 : Int32) &&& 31)) - (1 : Int32)))))])) _
                    refine XS.ixor X0.here hx rfl (hb hby at_54) rfl ?_
                    show Steps p.tables e below (s₁.setTop (mkF m 55 #[.val (.int p1), .val (.int p2), .val (.int (7 : Int32)), .val (.int (((1 : Int32) <<< ((28 : Int32) &&& 31)) - (1 : Int32))), .val (.int (p1 ||| ((286331153 : Int32) &&& (((1 : Int32) <<< ((28 : Int32) &&& 31)) - (1 : Int32))))), .unset, .unset, .unset] [(.int (((15 : Int32) <<< ((28 : Int32) &&& 31)) ^^^ (-1 : Int32))), (.int (p1 ||| ((286331153 : Int32) &&& (((1 : Int32) <<< ((28 : Int32) &&& 31)) - (1 : Int32)))))])) _
                    refine XS.iand X0.here hx rfl (hb hby at_55) rfl ?_
                    show Steps p.tables e below (s₁.setTop (mkF m 56 #[.val (.int p1), .val (.int p2), .val (.int (7 : Int32)), .val (.int (((1 : Int32) <<< ((28 : Int32) &&& 31)) - (1 : Int32))), .val (.int (p1 ||| ((286331153 : Int32) &&& (((1 : Int32) <<< ((28 : Int32) &&& 31)) - (1 : Int32))))), .unset, .unset, .unset] [(.int ((p1 ||| ((286331153 : Int32) &&& (((1 : Int32) <<< ((28 : Int32) &&& 31)) - (1 : Int32)))) &&& (((15 : Int32) <<< ((28 : Int32) &&& 31)) ^^^ (-1 : Int32))))])) _
                    refine XS.istore X0.here hx rfl (hb hby at_56) rfl (l' := #[.val (.int p1), .val (.int p2), .val (.int (7 : Int32)), .val (.int (((1 : Int32) <<< ((28 : Int32) &&& 31)) - (1 : Int32))), .val (.int (p1 ||| ((286331153 : Int32) &&& (((1 : Int32) <<< ((28 : Int32) &&& 31)) - (1 : Int32))))), .val (.int ((p1 ||| ((286331153 : Int32) &&& (((1 : Int32) <<< ((28 : Int32) &&& 31)) - (1 : Int32)))) &&& (((15 : Int32) <<< ((28 : Int32) &&& 31)) ^^^ (-1 : Int32)))), .unset, .unset]) rfl ?_
                    show Steps p.tables e below (s₁.setTop (mkF m 58 #[.val (.int p1), .val (.int p2), .val (.int (7 : Int32)), .val (.int (((1 : Int32) <<< ((28 : Int32) &&& 31)) - (1 : Int32))), .val (.int (p1 ||| ((286331153 : Int32) &&& (((1 : Int32) <<< ((28 : Int32) &&& 31)) - (1 : Int32))))), .val (.int ((p1 ||| ((286331153 : Int32) &&& (((1 : Int32) <<< ((28 : Int32) &&& 31)) - (1 : Int32)))) &&& (((15 : Int32) <<< ((28 : Int32) &&& 31)) ^^^ (-1 : Int32)))), .unset, .unset] [])) _
                    refine XS.iloadN X0.here hx rfl (hb hby at_58) rfl ?_
                    show Steps p.tables e below (s₁.setTop (mkF m 59 #[.val (.int p1), .val (.int p2), .val (.int (7 : Int32)), .val (.int (((1 : Int32) <<< ((28 : Int32) &&& 31)) - (1 : Int32))), .val (.int (p1 ||| ((286331153 : Int32) &&& (((1 : Int32) <<< ((28 : Int32) &&& 31)) - (1 : Int32))))), .val (.int ((p1 ||| ((286331153 : Int32) &&& (((1 : Int32) <<< ((28 : Int32) &&& 31)) - (1 : Int32)))) &&& (((15 : Int32) <<< ((28 : Int32) &&& 31)) ^^^ (-1 : Int32)))), .unset, .unset] [(.int p1)])) _
                    refine st87 _ ?_
                    show Steps p.tables e below (T87.setTop (mkF m 62 #[.val (.int p1), .val (.int p2), .val (.int (7 : Int32)), .val (.int (((1 : Int32) <<< ((28 : Int32) &&& 31)) - (1 : Int32))), .val (.int (p1 ||| ((286331153 : Int32) &&& (((1 : Int32) <<< ((28 : Int32) &&& 31)) - (1 : Int32))))), .val (.int ((p1 ||| ((286331153 : Int32) &&& (((1 : Int32) <<< ((28 : Int32) &&& 31)) - (1 : Int32)))) &&& (((15 : Int32) <<< ((28 : Int32) &&& 31)) ^^^ (-1 : Int32)))), .unset, .unset] [(.int (own_f1 p1))])) _
                    refine XS.iloadN X87.here hx rfl (hb hby at_62) rfl ?_
                    show Steps p.tables e below (T87.setTop (mkF m 63 #[.val (.int p1), .val (.int p2), .val (.int (7 : Int32)), .val (.int (((1 : Int32) <<< ((28 : Int32) &&& 31)) - (1 : Int32))), .val (.int (p1 ||| ((286331153 : Int32) &&& (((1 : Int32) <<< ((28 : Int32) &&& 31)) - (1 : Int32))))), .val (.int ((p1 ||| ((286331153 : Int32) &&& (((1 : Int32) <<< ((28 : Int32) &&& 31)) - (1 : Int32)))) &&& (((15 : Int32) <<< ((28 : Int32) &&& 31)) ^^^ (-1 : Int32)))), .unset, .unset] [(.int p1), (.int (own_f1 p1))])) _
                    refine st89 _ ?_
                    exact kt
                  by_cases hc30 : (own_f1 p1) = (own_f2 p1)
                  ·
                    obtain ⟨v92, _, ⟨T92, L92, k92, n92⟩, -, X92, ⟨Lc92, hQ92, l92, y92, z92⟩, st92⟩ := Jvm.LawKit.callS X89 hx (y := (⟨"com/example/kerb/kerb/txn/SoleLocks", "length", "(I)I"⟩ : MethodName)) hown (mvT hZ (hw _ (List.mem_of_getElem? (i := 2) rfl))) (mvT hZ (hw _ (List.mem_of_getElem? (i := 3) rfl))) (mvT hZ (hw _ (List.mem_of_getElem? (i := 4) rfl))) (mvT hZ (hw _ (List.mem_of_getElem? (i := 5) rfl))) (by decide) (backOf (W := 0) (own_rm1 l Z a0 hw [] ((p1 ||| ((286331153 : Int32) &&& (((1 : Int32) <<< ((28 : Int32) &&& 31)) - (1 : Int32)))) &&& (((15 : Int32) <<< ((28 : Int32) &&& 31)) ^^^ (-1 : Int32))) h0 n0 Z0) hZ (hw _ (List.mem_of_getElem? (i := 5) rfl)) (hw _ (List.mem_of_getElem? (i := 4) rfl)) (by decide) (by decide)) (g := (mkF m 78 #[.val (.int p1), .val (.int p2), .val (.int (7 : Int32)), .val (.int (((1 : Int32) <<< ((28 : Int32) &&& 31)) - (1 : Int32))), .val (.int (p1 ||| ((286331153 : Int32) &&& (((1 : Int32) <<< ((28 : Int32) &&& 31)) - (1 : Int32))))), .val (.int ((p1 ||| ((286331153 : Int32) &&& (((1 : Int32) <<< ((28 : Int32) &&& 31)) - (1 : Int32)))) &&& (((15 : Int32) <<< ((28 : Int32) &&& 31)) ^^^ (-1 : Int32)))), .val (.int (1 : Int32)), .unset] [(.int ((p1 ||| ((286331153 : Int32) &&& (((1 : Int32) <<< ((28 : Int32) &&& 31)) - (1 : Int32)))) &&& (((15 : Int32) <<< ((28 : Int32) &&& 31)) ^^^ (-1 : Int32))))])) rfl (by rw [hml]; rfl) (argsL := [(.int ((p1 ||| ((286331153 : Int32) &&& (((1 : Int32) <<< ((28 : Int32) &&& 31)) - (1 : Int32)))) &&& (((15 : Int32) <<< ((28 : Int32) &&& 31)) ^^^ (-1 : Int32))))]) (rest := []) (lenOf own_pd69 rfl) rfl (by show 2 * 0 + _ ≤ _; exact Nat.le_of_eq rfl) (hb hby at_78) (fun _ _ => ⟨rfl, e89, (by decide : 0 + 0 ≤ _), (by decide : 0 + 0 ≤ _)⟩)
                    dsimp only [Pt.U, Pt.locs, Pt.cells, Pt.slots] at X92 l92 y92 z92 st92 hQ92
                    subst l92 y92 z92
                    obtain ⟨rfl, N92q, e92⟩ := hQ92
                    have N93 := Fr.app N90 N92q
                    have k94 : ∀ t, Steps p.tables e below (T92.setTop (mkF m 82 #[.val (.int p1), .val (.int p2), .val (.int (7 : Int32)), .val (.int (((1 : Int32) <<< ((28 : Int32) &&& 31)) - (1 : Int32))), .val (.int (p1 ||| ((286331153 : Int32) &&& (((1 : Int32) <<< ((28 : Int32) &&& 31)) - (1 : Int32))))), .val (.int ((p1 ||| ((286331153 : Int32) &&& (((1 : Int32) <<< ((28 : Int32) &&& 31)) - (1 : Int32)))) &&& (((15 : Int32) <<< ((28 : Int32) &&& 31)) ^^^ (-1 : Int32)))), .val (.int (1 : Int32)), .unset] [(.int (7 : Int32)), (.int (own_f1 ((p1 ||| ((286331153 : Int32) &&& (((1 : Int32) <<< ((28 : Int32) &&& 31)) - (1 : Int32)))) &&& (((15 : Int32) <<< ((28 : Int32) &&& 31)) ^^^ (-1 : Int32)))))])) t → Steps p.tables e below (s₁.setTop (entryFrame m #[(.int p1), (.int p2)] maxLocals)) t := by
                      intro t kt
                      refine k91 t ?_
                      show Steps p.tables e below (T89.setTop (mkF m 66 #[.val (.int p1), .val (.int p2), .val (.int (7 : Int32)), .val (.int (((1 : Int32) <<< ((28 : Int32) &&& 31)) - (1 : Int32))), .val (.int (p1 ||| ((286331153 : Int32) &&& (((1 : Int32) <<< ((28 : Int32) &&& 31)) - (1 : Int32))))), .val (.int ((p1 ||| ((286331153 : Int32) &&& (((1 : Int32) <<< ((28 : Int32) &&& 31)) - (1 : Int32)))) &&& (((15 : Int32) <<< ((28 : Int32) &&& 31)) ^^^ (-1 : Int32)))), .unset, .unset] [(.int (own_f2 p1)), (.int (own_f1 p1))])) _
                      refine XS.icmpNo X89.here hx rfl (hb hby at_66) rfl (teq hc30).2 ?_
                      show Steps p.tables e below (T89.setTop (mkF m 69 #[.val (.int p1), .val (.int p2), .val (.int (7 : Int32)), .val (.int (((1 : Int32) <<< ((28 : Int32) &&& 31)) - (1 : Int32))), .val (.int (p1 ||| ((286331153 : Int32) &&& (((1 : Int32) <<< ((28 : Int32) &&& 31)) - (1 : Int32))))), .val (.int ((p1 ||| ((286331153 : Int32) &&& (((1 : Int32) <<< ((28 : Int32) &&& 31)) - (1 : Int32)))) &&& (((15 : Int32) <<< ((28 : Int32) &&& 31)) ^^^ (-1 : Int32)))), .unset, .unset] [])) _
                      refine XS.iconst X89.here hx rfl (hb hby at_69) ?_
                      show Steps p.tables e below (T89.setTop (mkF m 70 #[.val (.int p1), .val (.int p2), .val (.int (7 : Int32)), .val (.int (((1 : Int32) <<< ((28 : Int32) &&& 31)) - (1 : Int32))), .val (.int (p1 ||| ((286331153 : Int32) &&& (((1 : Int32) <<< ((28 : Int32) &&& 31)) - (1 : Int32))))), .val (.int ((p1 ||| ((286331153 : Int32) &&& (((1 : Int32) <<< ((28 : Int32) &&& 31)) - (1 : Int32)))) &&& (((15 : Int32) <<< ((28 : Int32) &&& 31)) ^^^ (-1 : Int32)))), .unset, .unset] [(.int (1 : Int32))])) _
                      refine XS.goto X89.here hx rfl (pc0 := 70) (pc' := 74) rfl (hb hby at_70) (by decide) (by decide) ?_
                      show Steps p.tables e below (T89.setTop (mkF m 74 #[.val (.int p1), .val (.int p2), .val (.int (7 : Int32)), .val (.int (((1 : Int32) <<< ((28 : Int32) &&& 31)) - (1 : Int32))), .val (.int (p1 ||| ((286331153 : Int32) &&& (((1 : Int32) <<< ((28 : Int32) &&& 31)) - (1 : Int32))))), .val (.int ((p1 ||| ((286331153 : Int32) &&& (((1 : Int32) <<< ((28 : Int32) &&& 31)) - (1 : Int32)))) &&& (((15 : Int32) <<< ((28 : Int32) &&& 31)) ^^^ (-1 : Int32)))), .unset, .unset] [(.int (1 : Int32))])) _
                      refine XS.istore X89.here hx rfl (hb hby at_74) rfl (l' := #[.val (.int p1), .val (.int p2), .val (.int (7 : Int32)), .val (.int (((1 : Int32) <<< ((28 : Int32) &&& 31)) - (1 : Int32))), .val (.int (p1 ||| ((286331153 : Int32) &&& (((1 : Int32) <<< ((28 : Int32) &&& 31)) - (1 : Int32))))), .val (.int ((p1 ||| ((286331153 : Int32) &&& (((1 : Int32) <<< ((28 : Int32) &&& 31)) - (1 : Int32)))) &&& (((15 : Int32) <<< ((28 : Int32) &&& 31)) ^^^ (-1 : Int32)))), .val (.int (1 : Int32)), .unset]) rfl ?_
                      show Steps p.tables e below (T89.setTop (mkF m 76 #[.val (.int p1), .val (.int p2), .val (.int (7 : Int32)), .val (.int (((1 : Int32) <<< ((28 : Int32) &&& 31)) - (1 : Int32))), .val (.int (p1 ||| ((286331153 : Int32) &&& (((1 : Int32) <<< ((28 : Int32) &&& 31)) - (1 : Int32))))), .val (.int ((p1 ||| ((286331153 : Int32) &&& (((1 : Int32) <<< ((28 : Int32) &&& 31)) - (1 : Int32)))) &&& (((15 : Int32) <<< ((28 : Int32) &&& 31)) ^^^ (-1 : Int32)))), .val (.int (1 : Int32)), .unset] [])) _
                      refine XS.iload X89.here hx rfl (hb hby at_76) rfl ?_
                      show Steps p.tables e below (T89.setTop (mkF m 78 #[.val (.int p1), .val (.int p2), .val (.int (7 : Int32)), .val (.int (((1 : Int32) <<< ((28 : Int32) &&& 31)) - (1 : Int32))), .val (.int (p1 ||| ((286331153 : Int32) &&& (((1 : Int32) <<< ((28 : Int32) &&& 31)) - (1 : Int32))))), .val (.int ((p1 ||| ((286331153 : Int32) &&& (((1 : Int32) <<< ((28 : Int32) &&& 31)) - (1 : Int32)))) &&& (((15 : Int32) <<< ((28 : Int32) &&& 31)) ^^^ (-1 : Int32)))), .val (.int (1 : Int32)), .unset] [(.int ((p1 ||| ((286331153 : Int32) &&& (((1 : Int32) <<< ((28 : Int32) &&& 31)) - (1 : Int32)))) &&& (((15 : Int32) <<< ((28 : Int32) &&& 31)) ^^^ (-1 : Int32))))])) _
                      refine st92 _ ?_
                      show Steps p.tables e below (T92.setTop (mkF m 81 #[.val (.int p1), .val (.int p2), .val (.int (7 : Int32)), .val (.int (((1 : Int32) <<< ((28 : Int32) &&& 31)) - (1 : Int32))), .val (.int (p1 ||| ((286331153 : Int32) &&& (((1 : Int32) <<< ((28 : Int32) &&& 31)) - (1 : Int32))))), .val (.int ((p1 ||| ((286331153 : Int32) &&& (((1 : Int32) <<< ((28 : Int32) &&& 31)) - (1 : Int32)))) &&& (((15 : Int32) <<< ((28 : Int32) &&& 31)) ^^^ (-1 : Int32)))), .val (.int (1 : Int32)), .unset] [(.int (own_f1 ((p1 ||| ((286331153 : Int32) &&& (((1 : Int32) <<< ((28 : Int32) &&& 31)) - (1 : Int32)))) &&& (((15 : Int32) <<< ((28 : Int32) &&& 31)) ^^^ (-1 : Int32)))))])) _
                      refine XS.iloadN X92.here hx rfl (hb hby at_81) rfl ?_
                      exact kt
                    by_cases hc31 : (own_f1 ((p1 ||| ((286331153 : Int32) &&& (((1 : Int32) <<< ((28 : Int32) &&& 31)) - (1 : Int32)))) &&& (((15 : Int32) <<< ((28 : Int32) &&& 31)) ^^^ (-1 : Int32)))) = (7 : Int32)
                    ·
                      obtain ⟨fs, hr, hrun, hended, hW, hsame⟩ := X92.leave (v := some (.int (1 : Int32))) (fun h => by rw [Bd.returns] at h; cases h)
                      refine ⟨_, _, k94 _ ?_, hrun, hended, _, _, rfl, ?_, ⟨_, rfl⟩, hW, hsame.mono (by decide) (by decide)⟩
                      · show Steps p.tables e below (T92.setTop (mkF m 82 #[.val (.int p1), .val (.int p2), .val (.int (7 : Int32)), .val (.int (((1 : Int32) <<< ((28 : Int32) &&& 31)) - (1 : Int32))), .val (.int (p1 ||| ((286331153 : Int32) &&& (((1 : Int32) <<< ((28 : Int32) &&& 31)) - (1 : Int32))))), .val (.int ((p1 ||| ((286331153 : Int32) &&& (((1 : Int32) <<< ((28 : Int32) &&& 31)) - (1 : Int32)))) &&& (((15 : Int32) <<< ((28 : Int32) &&& 31)) ^^^ (-1 : Int32)))), .val (.int (1 : Int32)), .unset] [(.int (7 : Int32)), (.int (own_f1 ((p1 ||| ((286331153 : Int32) &&& (((1 : Int32) <<< ((28 : Int32) &&& 31)) - (1 : Int32)))) &&& (((15 : Int32) <<< ((28 : Int32) &&& 31)) ^^^ (-1 : Int32)))))])) _
                        refine XS.icmpNo X92.here hx rfl (hb hby at_82) rfl (teq hc31).2 ?_
                        show Steps p.tables e below (T92.setTop (mkF m 85 #[.val (.int p1), .val (.int p2), .val (.int (7 : Int32)), .val (.int (((1 : Int32) <<< ((28 : Int32) &&& 31)) - (1 : Int32))), .val (.int (p1 ||| ((286331153 : Int32) &&& (((1 : Int32) <<< ((28 : Int32) &&& 31)) - (1 : Int32))))), .val (.int ((p1 ||| ((286331153 : Int32) &&& (((1 : Int32) <<< ((28 : Int32) &&& 31)) - (1 : Int32)))) &&& (((15 : Int32) <<< ((28 : Int32) &&& 31)) ^^^ (-1 : Int32)))), .val (.int (1 : Int32)), .unset] [])) _
                        refine XS.iconst X92.here hx rfl (hb hby at_85) ?_
                        show Steps p.tables e below (T92.setTop (mkF m 86 #[.val (.int p1), .val (.int p2), .val (.int (7 : Int32)), .val (.int (((1 : Int32) <<< ((28 : Int32) &&& 31)) - (1 : Int32))), .val (.int (p1 ||| ((286331153 : Int32) &&& (((1 : Int32) <<< ((28 : Int32) &&& 31)) - (1 : Int32))))), .val (.int ((p1 ||| ((286331153 : Int32) &&& (((1 : Int32) <<< ((28 : Int32) &&& 31)) - (1 : Int32)))) &&& (((15 : Int32) <<< ((28 : Int32) &&& 31)) ^^^ (-1 : Int32)))), .val (.int (1 : Int32)), .unset] [(.int (1 : Int32))])) _
                        refine XS.goto X92.here hx rfl (pc0 := 86) (pc' := 90) rfl (hb hby at_86) (by decide) (by decide) ?_
                        show Steps p.tables e below (T92.setTop (mkF m 90 #[.val (.int p1), .val (.int p2), .val (.int (7 : Int32)), .val (.int (((1 : Int32) <<< ((28 : Int32) &&& 31)) - (1 : Int32))), .val (.int (p1 ||| ((286331153 : Int32) &&& (((1 : Int32) <<< ((28 : Int32) &&& 31)) - (1 : Int32))))), .val (.int ((p1 ||| ((286331153 : Int32) &&& (((1 : Int32) <<< ((28 : Int32) &&& 31)) - (1 : Int32)))) &&& (((15 : Int32) <<< ((28 : Int32) &&& 31)) ^^^ (-1 : Int32)))), .val (.int (1 : Int32)), .unset] [(.int (1 : Int32))])) _
                        refine XS.istore X92.here hx rfl (hb hby at_90) rfl (l' := #[.val (.int p1), .val (.int p2), .val (.int (7 : Int32)), .val (.int (((1 : Int32) <<< ((28 : Int32) &&& 31)) - (1 : Int32))), .val (.int (p1 ||| ((286331153 : Int32) &&& (((1 : Int32) <<< ((28 : Int32) &&& 31)) - (1 : Int32))))), .val (.int ((p1 ||| ((286331153 : Int32) &&& (((1 : Int32) <<< ((28 : Int32) &&& 31)) - (1 : Int32)))) &&& (((15 : Int32) <<< ((28 : Int32) &&& 31)) ^^^ (-1 : Int32)))), .val (.int (1 : Int32)), .val (.int (1 : Int32))]) rfl ?_
                        show Steps p.tables e below (T92.setTop (mkF m 92 #[.val (.int p1), .val (.int p2), .val (.int (7 : Int32)), .val (.int (((1 : Int32) <<< ((28 : Int32) &&& 31)) - (1 : Int32))), .val (.int (p1 ||| ((286331153 : Int32) &&& (((1 : Int32) <<< ((28 : Int32) &&& 31)) - (1 : Int32))))), .val (.int ((p1 ||| ((286331153 : Int32) &&& (((1 : Int32) <<< ((28 : Int32) &&& 31)) - (1 : Int32)))) &&& (((15 : Int32) <<< ((28 : Int32) &&& 31)) ^^^ (-1 : Int32)))), .val (.int (1 : Int32)), .val (.int (1 : Int32))] [])) _
                        refine XS.iload X92.here hx rfl (hb hby at_92) rfl ?_
                        show Steps p.tables e below (T92.setTop (mkF m 94 #[.val (.int p1), .val (.int p2), .val (.int (7 : Int32)), .val (.int (((1 : Int32) <<< ((28 : Int32) &&& 31)) - (1 : Int32))), .val (.int (p1 ||| ((286331153 : Int32) &&& (((1 : Int32) <<< ((28 : Int32) &&& 31)) - (1 : Int32))))), .val (.int ((p1 ||| ((286331153 : Int32) &&& (((1 : Int32) <<< ((28 : Int32) &&& 31)) - (1 : Int32)))) &&& (((15 : Int32) <<< ((28 : Int32) &&& 31)) ^^^ (-1 : Int32)))), .val (.int (1 : Int32)), .val (.int (1 : Int32))] [(.int (1 : Int32))])) _
                        refine XS.ifNo X92.here hx rfl (hb hby at_94) rfl ((if0 _ _).trans (feq (by decide : ¬ ((1 : Int32) = (0 : Int32)))).1) ?_
                        show Steps p.tables e below (T92.setTop (mkF m 97 #[.val (.int p1), .val (.int p2), .val (.int (7 : Int32)), .val (.int (((1 : Int32) <<< ((28 : Int32) &&& 31)) - (1 : Int32))), .val (.int (p1 ||| ((286331153 : Int32) &&& (((1 : Int32) <<< ((28 : Int32) &&& 31)) - (1 : Int32))))), .val (.int ((p1 ||| ((286331153 : Int32) &&& (((1 : Int32) <<< ((28 : Int32) &&& 31)) - (1 : Int32)))) &&& (((15 : Int32) <<< ((28 : Int32) &&& 31)) ^^^ (-1 : Int32)))), .val (.int (1 : Int32)), .val (.int (1 : Int32))] [])) _
                        refine XS.iload X92.here hx rfl (hb hby at_97) rfl ?_
                        show Steps p.tables e below (T92.setTop (mkF m 99 #[.val (.int p1), .val (.int p2), .val (.int (7 : Int32)), .val (.int (((1 : Int32) <<< ((28 : Int32) &&& 31)) - (1 : Int32))), .val (.int (p1 ||| ((286331153 : Int32) &&& (((1 : Int32) <<< ((28 : Int32) &&& 31)) - (1 : Int32))))), .val (.int ((p1 ||| ((286331153 : Int32) &&& (((1 : Int32) <<< ((28 : Int32) &&& 31)) - (1 : Int32)))) &&& (((15 : Int32) <<< ((28 : Int32) &&& 31)) ^^^ (-1 : Int32)))), .val (.int (1 : Int32)), .val (.int (1 : Int32))] [(.int (1 : Int32))])) _
                        refine XS.ifNo X92.here hx rfl (hb hby at_99) rfl ((if0 _ _).trans (feq (by decide : ¬ ((1 : Int32) = (0 : Int32)))).1) ?_
                        show Steps p.tables e below (T92.setTop (mkF m 102 #[.val (.int p1), .val (.int p2), .val (.int (7 : Int32)), .val (.int (((1 : Int32) <<< ((28 : Int32) &&& 31)) - (1 : Int32))), .val (.int (p1 ||| ((286331153 : Int32) &&& (((1 : Int32) <<< ((28 : Int32) &&& 31)) - (1 : Int32))))), .val (.int ((p1 ||| ((286331153 : Int32) &&& (((1 : Int32) <<< ((28 : Int32) &&& 31)) - (1 : Int32)))) &&& (((15 : Int32) <<< ((28 : Int32) &&& 31)) ^^^ (-1 : Int32)))), .val (.int (1 : Int32)), .val (.int (1 : Int32))] [])) _
                        refine XS.iconst X92.here hx rfl (hb hby at_102) ?_
                        show Steps p.tables e below (T92.setTop (mkF m 103 #[.val (.int p1), .val (.int p2), .val (.int (7 : Int32)), .val (.int (((1 : Int32) <<< ((28 : Int32) &&& 31)) - (1 : Int32))), .val (.int (p1 ||| ((286331153 : Int32) &&& (((1 : Int32) <<< ((28 : Int32) &&& 31)) - (1 : Int32))))), .val (.int ((p1 ||| ((286331153 : Int32) &&& (((1 : Int32) <<< ((28 : Int32) &&& 31)) - (1 : Int32)))) &&& (((15 : Int32) <<< ((28 : Int32) &&& 31)) ^^^ (-1 : Int32)))), .val (.int (1 : Int32)), .val (.int (1 : Int32))] [(.int (1 : Int32))])) _
                        refine XS.goto X92.here hx rfl (pc0 := 103) (pc' := 107) rfl (hb hby at_103) (by decide) (by decide) ?_
                        show Steps p.tables e below (T92.setTop (mkF m 107 #[.val (.int p1), .val (.int p2), .val (.int (7 : Int32)), .val (.int (((1 : Int32) <<< ((28 : Int32) &&& 31)) - (1 : Int32))), .val (.int (p1 ||| ((286331153 : Int32) &&& (((1 : Int32) <<< ((28 : Int32) &&& 31)) - (1 : Int32))))), .val (.int ((p1 ||| ((286331153 : Int32) &&& (((1 : Int32) <<< ((28 : Int32) &&& 31)) - (1 : Int32)))) &&& (((15 : Int32) <<< ((28 : Int32) &&& 31)) ^^^ (-1 : Int32)))), .val (.int (1 : Int32)), .val (.int (1 : Int32))] [(.int (1 : Int32))])) _
                        exact retN X92 hx (t := .boolean) Bd.returns (by simp) (hb hby at_107) hr
                      · show own_Q0 Z p1 p2 h0 n0 _ T92.heap _
                        rw [e92]
                        exact ⟨(by rw [own_f0, if_neg hc1, if_neg hc5, if_neg hc9, if_neg hc13, if_neg hc17, if_neg hc21, if_neg hc25, if_pos hc29, if_pos hc30, if_pos hc31]), N93⟩
                    ·
                      obtain ⟨fs, hr, hrun, hended, hW, hsame⟩ := X92.leave (v := some (.int (0 : Int32))) (fun h => by rw [Bd.returns] at h; cases h)
                      refine ⟨_, _, k94 _ ?_, hrun, hended, _, _, rfl, ?_, ⟨_, rfl⟩, hW, hsame.mono (by decide) (by decide)⟩
                      · show Steps p.tables e below (T92.setTop (mkF m 82 #[.val (.int p1), .val (.int p2), .val (.int (7 : Int32)), .val (.int (((1 : Int32) <<< ((28 : Int32) &&& 31)) - (1 : Int32))), .val (.int (p1 ||| ((286331153 : Int32) &&& (((1 : Int32) <<< ((28 : Int32) &&& 31)) - (1 : Int32))))), .val (.int ((p1 ||| ((286331153 : Int32) &&& (((1 : Int32) <<< ((28 : Int32) &&& 31)) - (1 : Int32)))) &&& (((15 : Int32) <<< ((28 : Int32) &&& 31)) ^^^ (-1 : Int32)))), .val (.int (1 : Int32)), .unset] [(.int (7 : Int32)), (.int (own_f1 ((p1 ||| ((286331153 : Int32) &&& (((1 : Int32) <<< ((28 : Int32) &&& 31)) - (1 : Int32)))) &&& (((15 : Int32) <<< ((28 : Int32) &&& 31)) ^^^ (-1 : Int32)))))])) _
                        refine XS.icmpYes X92.here hx rfl (pc0 := 82) (pc' := 89) rfl (hb hby at_82) rfl (feq hc31).2 (by decide) (by decide) ?_
                        show Steps p.tables e below (T92.setTop (mkF m 89 #[.val (.int p1), .val (.int p2), .val (.int (7 : Int32)), .val (.int (((1 : Int32) <<< ((28 : Int32) &&& 31)) - (1 : Int32))), .val (.int (p1 ||| ((286331153 : Int32) &&& (((1 : Int32) <<< ((28 : Int32) &&& 31)) - (1 : Int32))))), .val (.int ((p1 ||| ((286331153 : Int32) &&& (((1 : Int32) <<< ((28 : Int32) &&& 31)) - (1 : Int32)))) &&& (((15 : Int32) <<< ((28 : Int32) &&& 31)) ^^^ (-1 : Int32)))), .val (.int (1 : Int32)), .unset] [])) _
                        refine XS.iconst X92.here hx rfl (hb hby at_89) ?_
                        show Steps p.tables e below (T92.setTop (mkF m 90 #[.val (.int p1), .val (.int p2), .val (.int (7 : Int32)), .val (.int (((1 : Int32) <<< ((28 : Int32) &&& 31)) - (1 : Int32))), .val (.int (p1 ||| ((286331153 : Int32) &&& (((1 : Int32) <<< ((28 : Int32) &&& 31)) - (1 : Int32))))), .val (.int ((p1 ||| ((286331153 : Int32) &&& (((1 : Int32) <<< ((28 : Int32) &&& 31)) - (1 : Int32)))) &&& (((15 : Int32) <<< ((28 : Int32) &&& 31)) ^^^ (-1 : Int32)))), .val (.int (1 : Int32)), .unset] [(.int (0 : Int32))])) _
                        refine XS.istore X92.here hx rfl (hb hby at_90) rfl (l' := #[.val (.int p1), .val (.int p2), .val (.int (7 : Int32)), .val (.int (((1 : Int32) <<< ((28 : Int32) &&& 31)) - (1 : Int32))), .val (.int (p1 ||| ((286331153 : Int32) &&& (((1 : Int32) <<< ((28 : Int32) &&& 31)) - (1 : Int32))))), .val (.int ((p1 ||| ((286331153 : Int32) &&& (((1 : Int32) <<< ((28 : Int32) &&& 31)) - (1 : Int32)))) &&& (((15 : Int32) <<< ((28 : Int32) &&& 31)) ^^^ (-1 : Int32)))), .val (.int (1 : Int32)), .val (.int (0 : Int32))]) rfl ?_
                        show Steps p.tables e below (T92.setTop (mkF m 92 #[.val (.int p1), .val (.int p2), .val (.int (7 : Int32)), .val (.int (((1 : Int32) <<< ((28 : Int32) &&& 31)) - (1 : Int32))), .val (.int (p1 ||| ((286331153 : Int32) &&& (((1 : Int32) <<< ((28 : Int32) &&& 31)) - (1 : Int32))))), .val (.int ((p1 ||| ((286331153 : Int32) &&& (((1 : Int32) <<< ((28 : Int32) &&& 31)) - (1 : Int32)))) &&& (((15 : Int32) <<< ((28 : Int32) &&& 31)) ^^^ (-1 : Int32)))), .val (.int (1 : Int32)), .val (.int (0 : Int32))] [])) _
                        refine XS.iload X92.here hx rfl (hb hby at_92) rfl ?_
                        show Steps p.tables e below (T92.setTop (mkF m 94 #[.val (.int p1), .val (.int p2), .val (.int (7 : Int32)), .val (.int (((1 : Int32) <<< ((28 : Int32) &&& 31)) - (1 : Int32))), .val (.int (p1 ||| ((286331153 : Int32) &&& (((1 : Int32) <<< ((28 : Int32) &&& 31)) - (1 : Int32))))), .val (.int ((p1 ||| ((286331153 : Int32) &&& (((1 : Int32) <<< ((28 : Int32) &&& 31)) - (1 : Int32)))) &&& (((15 : Int32) <<< ((28 : Int32) &&& 31)) ^^^ (-1 : Int32)))), .val (.int (1 : Int32)), .val (.int (0 : Int32))] [(.int (1 : Int32))])) _
                        refine XS.ifNo X92.here hx rfl (hb hby at_94) rfl ((if0 _ _).trans (feq (by decide : ¬ ((1 : Int32) = (0 : Int32)))).1) ?_
                        show Steps p.tables e below (T92.setTop (mkF m 97 #[.val (.int p1), .val (.int p2), .val (.int (7 : Int32)), .val (.int (((1 : Int32) <<< ((28 : Int32) &&& 31)) - (1 : Int32))), .val (.int (p1 ||| ((286331153 : Int32) &&& (((1 : Int32) <<< ((28 : Int32) &&& 31)) - (1 : Int32))))), .val (.int ((p1 ||| ((286331153 : Int32) &&& (((1 : Int32) <<< ((28 : Int32) &&& 31)) - (1 : Int32)))) &&& (((15 : Int32) <<< ((28 : Int32) &&& 31)) ^^^ (-1 : Int32)))), .val (.int (1 : Int32)), .val (.int (0 : Int32))] [])) _
                        refine XS.iload X92.here hx rfl (hb hby at_97) rfl ?_
                        show Steps p.tables e below (T92.setTop (mkF m 99 #[.val (.int p1), .val (.int p2), .val (.int (7 : Int32)), .val (.int (((1 : Int32) <<< ((28 : Int32) &&& 31)) - (1 : Int32))), .val (.int (p1 ||| ((286331153 : Int32) &&& (((1 : Int32) <<< ((28 : Int32) &&& 31)) - (1 : Int32))))), .val (.int ((p1 ||| ((286331153 : Int32) &&& (((1 : Int32) <<< ((28 : Int32) &&& 31)) - (1 : Int32)))) &&& (((15 : Int32) <<< ((28 : Int32) &&& 31)) ^^^ (-1 : Int32)))), .val (.int (1 : Int32)), .val (.int (0 : Int32))] [(.int (0 : Int32))])) _
                        refine XS.ifYes X92.here hx rfl (pc0 := 99) (pc' := 106) rfl (hb hby at_99) rfl ((if0 _ _).trans (teq (by decide : (0 : Int32) = (0 : Int32))).1) (by decide) (by decide) ?_
                        show Steps p.tables e below (T92.setTop (mkF m 106 #[.val (.int p1), .val (.int p2), .val (.int (7 : Int32)), .val (.int (((1 : Int32) <<< ((28 : Int32) &&& 31)) - (1 : Int32))), .val (.int (p1 ||| ((286331153 : Int32) &&& (((1 : Int32) <<< ((28 : Int32) &&& 31)) - (1 : Int32))))), .val (.int ((p1 ||| ((286331153 : Int32) &&& (((1 : Int32) <<< ((28 : Int32) &&& 31)) - (1 : Int32)))) &&& (((15 : Int32) <<< ((28 : Int32) &&& 31)) ^^^ (-1 : Int32)))), .val (.int (1 : Int32)), .val (.int (0 : Int32))] [])) _
                        refine XS.iconst X92.here hx rfl (hb hby at_106) ?_
                        show Steps p.tables e below (T92.setTop (mkF m 107 #[.val (.int p1), .val (.int p2), .val (.int (7 : Int32)), .val (.int (((1 : Int32) <<< ((28 : Int32) &&& 31)) - (1 : Int32))), .val (.int (p1 ||| ((286331153 : Int32) &&& (((1 : Int32) <<< ((28 : Int32) &&& 31)) - (1 : Int32))))), .val (.int ((p1 ||| ((286331153 : Int32) &&& (((1 : Int32) <<< ((28 : Int32) &&& 31)) - (1 : Int32)))) &&& (((15 : Int32) <<< ((28 : Int32) &&& 31)) ^^^ (-1 : Int32)))), .val (.int (1 : Int32)), .val (.int (0 : Int32))] [(.int (0 : Int32))])) _
                        exact retN X92 hx (t := .boolean) Bd.returns (by simp) (hb hby at_107) hr
                      · show own_Q0 Z p1 p2 h0 n0 _ T92.heap _
                        rw [e92]
                        exact ⟨(by rw [own_f0, if_neg hc1, if_neg hc5, if_neg hc9, if_neg hc13, if_neg hc17, if_neg hc21, if_neg hc25, if_pos hc29, if_pos hc30, if_neg hc31]), N93⟩
                  ·
                    obtain ⟨v95, _, ⟨T95, L95, k95, n95⟩, -, X95, ⟨Lc95, hQ95, l95, y95, z95⟩, st95⟩ := Jvm.LawKit.callS X89 hx (y := (⟨"com/example/kerb/kerb/txn/SoleLocks", "length", "(I)I"⟩ : MethodName)) hown (mvT hZ (hw _ (List.mem_of_getElem? (i := 2) rfl))) (mvT hZ (hw _ (List.mem_of_getElem? (i := 3) rfl))) (mvT hZ (hw _ (List.mem_of_getElem? (i := 4) rfl))) (mvT hZ (hw _ (List.mem_of_getElem? (i := 5) rfl))) (by decide) (backOf (W := 0) (own_rm1 l Z a0 hw [] ((p1 ||| ((286331153 : Int32) &&& (((1 : Int32) <<< ((28 : Int32) &&& 31)) - (1 : Int32)))) &&& (((15 : Int32) <<< ((28 : Int32) &&& 31)) ^^^ (-1 : Int32))) h0 n0 Z0) hZ (hw _ (List.mem_of_getElem? (i := 5) rfl)) (hw _ (List.mem_of_getElem? (i := 4) rfl)) (by decide) (by decide)) (g := (mkF m 78 #[.val (.int p1), .val (.int p2), .val (.int (7 : Int32)), .val (.int (((1 : Int32) <<< ((28 : Int32) &&& 31)) - (1 : Int32))), .val (.int (p1 ||| ((286331153 : Int32) &&& (((1 : Int32) <<< ((28 : Int32) &&& 31)) - (1 : Int32))))), .val (.int ((p1 ||| ((286331153 : Int32) &&& (((1 : Int32) <<< ((28 : Int32) &&& 31)) - (1 : Int32)))) &&& (((15 : Int32) <<< ((28 : Int32) &&& 31)) ^^^ (-1 : Int32)))), .val (.int (0 : Int32)), .unset] [(.int ((p1 ||| ((286331153 : Int32) &&& (((1 : Int32) <<< ((28 : Int32) &&& 31)) - (1 : Int32)))) &&& (((15 : Int32) <<< ((28 : Int32) &&& 31)) ^^^ (-1 : Int32))))])) rfl (by rw [hml]; rfl) (argsL := [(.int ((p1 ||| ((286331153 : Int32) &&& (((1 : Int32) <<< ((28 : Int32) &&& 31)) - (1 : Int32)))) &&& (((15 : Int32) <<< ((28 : Int32) &&& 31)) ^^^ (-1 : Int32))))]) (rest := []) (lenOf own_pd69 rfl) rfl (by show 2 * 0 + _ ≤ _; exact Nat.le_of_eq rfl) (hb hby at_78) (fun _ _ => ⟨rfl, e89, (by decide : 0 + 0 ≤ _), (by decide : 0 + 0 ≤ _)⟩)
                    dsimp only [Pt.U, Pt.locs, Pt.cells, Pt.slots] at X95 l95 y95 z95 st95 hQ95
                    subst l95 y95 z95
                    obtain ⟨rfl, N95q, e95⟩ := hQ95
                    have N96 := Fr.app N90 N95q
                    have k97 : ∀ t, Steps p.tables e below (T95.setTop (mkF m 82 #[.val (.int p1), .val (.int p2), .val (.int (7 : Int32)), .val (.int (((1 : Int32) <<< ((28 : Int32) &&& 31)) - (1 : Int32))), .val (.int (p1 ||| ((286331153 : Int32) &&& (((1 : Int32) <<< ((28 : Int32) &&& 31)) - (1 : Int32))))), .val (.int ((p1 ||| ((286331153 : Int32) &&& (((1 : Int32) <<< ((28 : Int32) &&& 31)) - (1 : Int32)))) &&& (((15 : Int32) <<< ((28 : Int32) &&& 31)) ^^^ (-1 : Int32)))), .val (.int (0 : Int32)), .unset] [(.int (7 : Int32)), (.int (own_f1 ((p1 ||| ((286331153 : Int32) &&& (((1 : Int32) <<< ((28 : Int32) &&& 31)) - (1 : Int32)))) &&& (((15 : Int32) <<< ((28 : Int32) &&& 31)) ^^^ (-1 : Int32)))))])) t → Steps p.tables e below (s₁.setTop (entryFrame m #[(.int p1), (.int p2)] maxLocals)) t := by
                      intro t kt
                      refine k91 t ?_
                      show Steps p.tables e below (T89.setTop (mkF m 66 #[.val (.int p1), .val (.int p2), .val (.int (7 : Int32)), .val (.int (((1 : Int32) <<< ((28 : Int32) &&& 31)) - (1 : Int32))), .val (.int (p1 ||| ((286331153 : Int32) &&& (((1 : Int32) <<< ((28 : Int32) &&& 31)) - (1 : Int32))))), .val (.int ((p1 ||| ((286331153 : Int32) &&& (((1 : Int32) <<< ((28 : Int32) &&& 31)) - (1 : Int32)))) &&& (((15 : Int32) <<< ((28 : Int32) &&& 31)) ^^^ (-1 : Int32)))), .unset, .unset] [(.int (own_f2 p1)), (.int (own_f1 p1))])) _
                      refine XS.icmpYes X89.here hx rfl (pc0 := 66) (pc' := 73) rfl (hb hby at_66) rfl (feq hc30).2 (by decide) (by decide) ?_
                      show Steps p.tables e below (T89.setTop (mkF m 73 #[.val (.int p1), .val (.int p2), .val (.int (7 : Int32)), .val (.int (((1 : Int32) <<< ((28 : Int32) &&& 31)) - (1 : Int32))), .val (.int (p1 ||| ((286331153 : Int32) &&& (((1 : Int32) <<< ((28 : Int32) &&& 31)) - (1 : Int32))))), .val (.int ((p1 ||| ((286331153 : Int32) &&& (((1 : Int32) <<< ((28 : Int32) &&& 31)) - (1 : Int32)))) &&& (((15 : Int32) <<< ((28 : Int32) &&& 31)) ^^^ (-1 : Int32)))), .unset, .unset] [])) _
                      refine XS.iconst X89.here hx rfl (hb hby at_73) ?_
                      show Steps p.tables e below (T89.setTop (mkF m 74 #[.val (.int p1), .val (.int p2), .val (.int (7 : Int32)), .val (.int (((1 : Int32) <<< ((28 : Int32) &&& 31)) - (1 : Int32))), .val (.int (p1 ||| ((286331153 : Int32) &&& (((1 : Int32) <<< ((28 : Int32) &&& 31)) - (1 : Int32))))), .val (.int ((p1 ||| ((286331153 : Int32) &&& (((1 : Int32) <<< ((28 : Int32) &&& 31)) - (1 : Int32)))) &&& (((15 : Int32) <<< ((28 : Int32) &&& 31)) ^^^ (-1 : Int32)))), .unset, .unset] [(.int (0 : Int32))])) _
                      refine XS.istore X89.here hx rfl (hb hby at_74) rfl (l' := #[.val (.int p1), .val (.int p2), .val (.int (7 : Int32)), .val (.int (((1 : Int32) <<< ((28 : Int32) &&& 31)) - (1 : Int32))), .val (.int (p1 ||| ((286331153 : Int32) &&& (((1 : Int32) <<< ((28 : Int32) &&& 31)) - (1 : Int32))))), .val (.int ((p1 ||| ((286331153 : Int32) &&& (((1 : Int32) <<< ((28 : Int32) &&& 31)) - (1 : Int32)))) &&& (((15 : Int32) <<< ((28 : Int32) &&& 31)) ^^^ (-1 : Int32)))), .val (.int (0 : Int32)), .unset]) rfl ?_
                      show Steps p.tables e below (T89.setTop (mkF m 76 #[.val (.int p1), .val (.int p2), .val (.int (7 : Int32)), .val (.int (((1 : Int32) <<< ((28 : Int32) &&& 31)) - (1 : Int32))), .val (.int (p1 ||| ((286331153 : Int32) &&& (((1 : Int32) <<< ((28 : Int32) &&& 31)) - (1 : Int32))))), .val (.int ((p1 ||| ((286331153 : Int32) &&& (((1 : Int32) <<< ((28 : Int32) &&& 31)) - (1 : Int32)))) &&& (((15 : Int32) <<< ((28 : Int32) &&& 31)) ^^^ (-1 : Int32)))), .val (.int (0 : Int32)), .unset] [])) _
                      refine XS.iload X89.here hx rfl (hb hby at_76) rfl ?_
                      show Steps p.tables e below (T89.setTop (mkF m 78 #[.val (.int p1), .val (.int p2), .val (.int (7 : Int32)), .val (.int (((1 : Int32) <<< ((28 : Int32) &&& 31)) - (1 : Int32))), .val (.int (p1 ||| ((286331153 : Int32) &&& (((1 : Int32) <<< ((28 : Int32) &&& 31)) - (1 : Int32))))), .val (.int ((p1 ||| ((286331153 : Int32) &&& (((1 : Int32) <<< ((28 : Int32) &&& 31)) - (1 : Int32)))) &&& (((15 : Int32) <<< ((28 : Int32) &&& 31)) ^^^ (-1 : Int32)))), .val (.int (0 : Int32)), .unset] [(.int ((p1 ||| ((286331153 : Int32) &&& (((1 : Int32) <<< ((28 : Int32) &&& 31)) - (1 : Int32)))) &&& (((15 : Int32) <<< ((28 : Int32) &&& 31)) ^^^ (-1 : Int32))))])) _
                      refine st95 _ ?_
                      show Steps p.tables e below (T95.setTop (mkF m 81 #[.val (.int p1), .val (.int p2), .val (.int (7 : Int32)), .val (.int (((1 : Int32) <<< ((28 : Int32) &&& 31)) - (1 : Int32))), .val (.int (p1 ||| ((286331153 : Int32) &&& (((1 : Int32) <<< ((28 : Int32) &&& 31)) - (1 : Int32))))), .val (.int ((p1 ||| ((286331153 : Int32) &&& (((1 : Int32) <<< ((28 : Int32) &&& 31)) - (1 : Int32)))) &&& (((15 : Int32) <<< ((28 : Int32) &&& 31)) ^^^ (-1 : Int32)))), .val (.int (0 : Int32)), .unset] [(.int (own_f1 ((p1 ||| ((286331153 : Int32) &&& (((1 : Int32) <<< ((28 : Int32) &&& 31)) - (1 : Int32)))) &&& (((15 : Int32) <<< ((28 : Int32) &&& 31)) ^^^ (-1 : Int32)))))])) _
                      refine XS.iloadN X95.here hx rfl (hb hby at_81) rfl ?_
                      exact kt
                    by_cases hc32 : (own_f1 ((p1 ||| ((286331153 : Int32) &&& (((1 : Int32) <<< ((28 : Int32) &&& 31)) - (1 : Int32)))) &&& (((15 : Int32) <<< ((28 : Int32) &&& 31)) ^^^ (-1 : Int32)))) = (7 : Int32)
                    ·
                      obtain ⟨fs, hr, hrun, hended, hW, hsame⟩ := X95.leave (v := some (.int (0 : Int32))) (fun h => by rw [Bd.returns] at h; cases h)
                      refine ⟨_, _, k97 _ ?_, hrun, hended, _, _, rfl, ?_, ⟨_, rfl⟩, hW, hsame.mono (by decide) (by decide)⟩
                      · show Steps p.tables e below (T95.setTop (mkF m 82 #[.val (.int p1), .val (.int p2), .val (.int (7 : Int32)), .val (.int (((1 : Int32) <<< ((28 : Int32) &&& 31)) - (1 : Int32))), .val (.int (p1 ||| ((286331153 : Int32) &&& (((1 : Int32) <<< ((28 : Int32) &&& 31)) - (1 : Int32))))), .val (.int ((p1 ||| ((286331153 : Int32) &&& (((1 : Int32) <<< ((28 : Int32) &&& 31)) - (1 : Int32)))) &&& (((15 : Int32) <<< ((28 : Int32) &&& 31)) ^^^ (-1 : Int32)))), .val (.int (0 : Int32)), .unset] [(.int (7 : Int32)), (.int (own_f1 ((p1 ||| ((286331153 : Int32) &&& (((1 : Int32) <<< ((28 : Int32) &&& 31)) - (1 : Int32)))) &&& (((15 : Int32) <<< ((28 : Int32) &&& 31)) ^^^ (-1 : Int32)))))])) _
                        refine XS.icmpNo X95.here hx rfl (hb hby at_82) rfl (teq hc32).2 ?_
                        show Steps p.tables e below (T95.setTop (mkF m 85 #[.val (.int p1), .val (.int p2), .val (.int (7 : Int32)), .val (.int (((1 : Int32) <<< ((28 : Int32) &&& 31)) - (1 : Int32))), .val (.int (p1 ||| ((286331153 : Int32) &&& (((1 : Int32) <<< ((28 : Int32) &&& 31)) - (1 : Int32))))), .val (.int ((p1 ||| ((286331153 : Int32) &&& (((1 : Int32) <<< ((28 : Int32) &&& 31)) - (1 : Int32)))) &&& (((15 : Int32) <<< ((28 : Int32) &&& 31)) ^^^ (-1 : Int32)))), .val (.int (0 : Int32)), .unset] [])) _
                        refine XS.iconst X95.here hx rfl (hb hby at_85) ?_
                        show Steps p.tables e below (T95.setTop (mkF m 86 #[.val (.int p1), .val (.int p2), .val (.int (7 : Int32)), .val (.int (((1 : Int32) <<< ((28 : Int32) &&& 31)) - (1 : Int32))), .val (.int (p1 ||| ((286331153 : Int32) &&& (((1 : Int32) <<< ((28 : Int32) &&& 31)) - (1 : Int32))))), .val (.int ((p1 ||| ((286331153 : Int32) &&& (((1 : Int32) <<< ((28 : Int32) &&& 31)) - (1 : Int32)))) &&& (((15 : Int32) <<< ((28 : Int32) &&& 31)) ^^^ (-1 : Int32)))), .val (.int (0 : Int32)), .unset] [(.int (1 : Int32))])) _
                        refine XS.goto X95.here hx rfl (pc0 := 86) (pc' := 90) rfl (hb hby at_86) (by decide) (by decide) ?_
                        show Steps p.tables e below (T95.setTop (mkF m 90 #[.val (.int p1), .val (.int p2), .val (.int (7 : Int32)), .val (.int (((1 : Int32) <<< ((28 : Int32) &&& 31)) - (1 : Int32))), .val (.int (p1 ||| ((286331153 : Int32) &&& (((1 : Int32) <<< ((28 : Int32) &&& 31)) - (1 : Int32))))), .val (.int ((p1 ||| ((286331153 : Int32) &&& (((1 : Int32) <<< ((28 : Int32) &&& 31)) - (1 : Int32)))) &&& (((15 : Int32) <<< ((28 : Int32) &&& 31)) ^^^ (-1 : Int32)))), .val (.int (0 : Int32)), .unset] [(.int (1 : Int32))])) _
                        refine XS.istore X95.here hx rfl (hb hby at_90) rfl (l' := #[.val (.int p1), .val (.int p2), .val (.int (7 : Int32)), .val (.int (((1 : Int32) <<< ((28 : Int32) &&& 31)) - (1 : Int32))), .val (.int (p1 ||| ((286331153 : Int32) &&& (((1 : Int32) <<< ((28 : Int32) &&& 31)) - (1 : Int32))))), .val (.int ((p1 ||| ((286331153 : Int32) &&& (((1 : Int32) <<< ((28 : Int32) &&& 31)) - (1 : Int32)))) &&& (((15 : Int32) <<< ((28 : Int32) &&& 31)) ^^^ (-1 : Int32)))), .val (.int (0 : Int32)), .val (.int (1 : Int32))]) rfl ?_
                        show Steps p.tables e below (T95.setTop (mkF m 92 #[.val (.int p1), .val (.int p2), .val (.int (7 : Int32)), .val (.int (((1 : Int32) <<< ((28 : Int32) &&& 31)) - (1 : Int32))), .val (.int (p1 ||| ((286331153 : Int32) &&& (((1 : Int32) <<< ((28 : Int32) &&& 31)) - (1 : Int32))))), .val (.int ((p1 ||| ((286331153 : Int32) &&& (((1 : Int32) <<< ((28 : Int32) &&& 31)) - (1 : Int32)))) &&& (((15 : Int32) <<< ((28 : Int32) &&& 31)) ^^^ (-1 : Int32)))), .val (.int (0 : Int32)), .val (.int (1 : Int32))] [])) _
                        refine XS.iload X95.here hx rfl (hb hby at_92) rfl ?_
                        show Steps p.tables e below (T95.setTop (mkF m 94 #[.val (.int p1), .val (.int p2), .val (.int (7 : Int32)), .val (.int (((1 : Int32) <<< ((28 : Int32) &&& 31)) - (1 : Int32))), .val (.int (p1 ||| ((286331153 : Int32) &&& (((1 : Int32) <<< ((28 : Int32) &&& 31)) - (1 : Int32))))), .val (.int ((p1 ||| ((286331153 : Int32) &&& (((1 : Int32) <<< ((28 : Int32) &&& 31)) - (1 : Int32)))) &&& (((15 : Int32) <<< ((28 : Int32) &&& 31)) ^^^ (-1 : Int32)))), .val (.int (0 : Int32)), .val (.int (1 : Int32))] [(.int (0 : Int32))])) _
                        refine XS.ifYes X95.here hx rfl (pc0 := 94) (pc' := 106) rfl (hb hby at_94) rfl ((if0 _ _).trans (teq (by decide : (0 : Int32) = (0 : Int32))).1) (by decide) (by decide) ?_
                        show Steps p.tables e below (T95.setTop (mkF m 106 #[.val (.int p1), .val (.int p2), .val (.int (7 : Int32)), .val (.int (((1 : Int32) <<< ((28 : Int32) &&& 31)) - (1 : Int32))), .val (.int (p1 ||| ((286331153 : Int32) &&& (((1 : Int32) <<< ((28 : Int32) &&& 31)) - (1 : Int32))))), .val (.int ((p1 ||| ((286331153 : Int32) &&& (((1 : Int32) <<< ((28 : Int32) &&& 31)) - (1 : Int32)))) &&& (((15 : Int32) <<< ((28 : Int32) &&& 31)) ^^^ (-1 : Int32)))), .val (.int (0 : Int32)), .val (.int (1 : Int32))] [])) _
                        refine XS.iconst X95.here hx rfl (hb hby at_106) ?_
                        show Steps p.tables e below (T95.setTop (mkF m 107 #[.val (.int p1), .val (.int p2), .val (.int (7 : Int32)), .val (.int (((1 : Int32) <<< ((28 : Int32) &&& 31)) - (1 : Int32))), .val (.int (p1 ||| ((286331153 : Int32) &&& (((1 : Int32) <<< ((28 : Int32) &&& 31)) - (1 : Int32))))), .val (.int ((p1 ||| ((286331153 : Int32) &&& (((1 : Int32) <<< ((28 : Int32) &&& 31)) - (1 : Int32)))) &&& (((15 : Int32) <<< ((28 : Int32) &&& 31)) ^^^ (-1 : Int32)))), .val (.int (0 : Int32)), .val (.int (1 : Int32))] [(.int (0 : Int32))])) _
                        exact retN X95 hx (t := .boolean) Bd.returns (by simp) (hb hby at_107) hr
                      · show own_Q0 Z p1 p2 h0 n0 _ T95.heap _
                        rw [e95]
                        exact ⟨(by rw [own_f0, if_neg hc1, if_neg hc5, if_neg hc9, if_neg hc13, if_neg hc17, if_neg hc21, if_neg hc25, if_pos hc29, if_neg hc30, if_pos hc32]), N96⟩
                    ·
                      obtain ⟨fs, hr, hrun, hended, hW, hsame⟩ := X95.leave (v := some (.int (0 : Int32))) (fun h => by rw [Bd.returns] at h; cases h)
                      refine ⟨_, _, k97 _ ?_, hrun, hended, _, _, rfl, ?_, ⟨_, rfl⟩, hW, hsame.mono (by decide) (by decide)⟩
                      · show Steps p.tables e below (T95.setTop (mkF m 82 #[.val (.int p1), .val (.int p2), .val (.int (7 : Int32)), .val (.int (((1 : Int32) <<< ((28 : Int32) &&& 31)) - (1 : Int32))), .val (.int (p1 ||| ((286331153 : Int32) &&& (((1 : Int32) <<< ((28 : Int32) &&& 31)) - (1 : Int32))))), .val (.int ((p1 ||| ((286331153 : Int32) &&& (((1 : Int32) <<< ((28 : Int32) &&& 31)) - (1 : Int32)))) &&& (((15 : Int32) <<< ((28 : Int32) &&& 31)) ^^^ (-1 : Int32)))), .val (.int (0 : Int32)), .unset] [(.int (7 : Int32)), (.int (own_f1 ((p1 ||| ((286331153 : Int32) &&& (((1 : Int32) <<< ((28 : Int32) &&& 31)) - (1 : Int32)))) &&& (((15 : Int32) <<< ((28 : Int32) &&& 31)) ^^^ (-1 : Int32)))))])) _
                        refine XS.icmpYes X95.here hx rfl (pc0 := 82) (pc' := 89) rfl (hb hby at_82) rfl (feq hc32).2 (by decide) (by decide) ?_
                        show Steps p.tables e below (T95.setTop (mkF m 89 #[.val (.int p1), .val (.int p2), .val (.int (7 : Int32)), .val (.int (((1 : Int32) <<< ((28 : Int32) &&& 31)) - (1 : Int32))), .val (.int (p1 ||| ((286331153 : Int32) &&& (((1 : Int32) <<< ((28 : Int32) &&& 31)) - (1 : Int32))))), .val (.int ((p1 ||| ((286331153 : Int32) &&& (((1 : Int32) <<< ((28 : Int32) &&& 31)) - (1 : Int32)))) &&& (((15 : Int32) <<< ((28 : Int32) &&& 31)) ^^^ (-1 : Int32)))), .val (.int (0 : Int32)), .unset] [])) _
                        refine XS.iconst X95.here hx rfl (hb hby at_89) ?_
                        show Steps p.tables e below (T95.setTop (mkF m 90 #[.val (.int p1), .val (.int p2), .val (.int (7 : Int32)), .val (.int (((1 : Int32) <<< ((28 : Int32) &&& 31)) - (1 : Int32))), .val (.int (p1 ||| ((286331153 : Int32) &&& (((1 : Int32) <<< ((28 : Int32) &&& 31)) - (1 : Int32))))), .val (.int ((p1 ||| ((286331153 : Int32) &&& (((1 : Int32) <<< ((28 : Int32) &&& 31)) - (1 : Int32)))) &&& (((15 : Int32) <<< ((28 : Int32) &&& 31)) ^^^ (-1 : Int32)))), .val (.int (0 : Int32)), .unset] [(.int (0 : Int32))])) _
                        refine XS.istore X95.here hx rfl (hb hby at_90) rfl (l' := #[.val (.int p1), .val (.int p2), .val (.int (7 : Int32)), .val (.int (((1 : Int32) <<< ((28 : Int32) &&& 31)) - (1 : Int32))), .val (.int (p1 ||| ((286331153 : Int32) &&& (((1 : Int32) <<< ((28 : Int32) &&& 31)) - (1 : Int32))))), .val (.int ((p1 ||| ((286331153 : Int32) &&& (((1 : Int32) <<< ((28 : Int32) &&& 31)) - (1 : Int32)))) &&& (((15 : Int32) <<< ((28 : Int32) &&& 31)) ^^^ (-1 : Int32)))), .val (.int (0 : Int32)), .val (.int (0 : Int32))]) rfl ?_
                        show Steps p.tables e below (T95.setTop (mkF m 92 #[.val (.int p1), .val (.int p2), .val (.int (7 : Int32)), .val (.int (((1 : Int32) <<< ((28 : Int32) &&& 31)) - (1 : Int32))), .val (.int (p1 ||| ((286331153 : Int32) &&& (((1 : Int32) <<< ((28 : Int32) &&& 31)) - (1 : Int32))))), .val (.int ((p1 ||| ((286331153 : Int32) &&& (((1 : Int32) <<< ((28 : Int32) &&& 31)) - (1 : Int32)))) &&& (((15 : Int32) <<< ((28 : Int32) &&& 31)) ^^^ (-1 : Int32)))), .val (.int (0 : Int32)), .val (.int (0 : Int32))] [])) _
                        refine XS.iload X95.here hx rfl (hb hby at_92) rfl ?_
                        show Steps p.tables e below (T95.setTop (mkF m 94 #[.val (.int p1), .val (.int p2), .val (.int (7 : Int32)), .val (.int (((1 : Int32) <<< ((28 : Int32) &&& 31)) - (1 : Int32))), .val (.int (p1 ||| ((286331153 : Int32) &&& (((1 : Int32) <<< ((28 : Int32) &&& 31)) - (1 : Int32))))), .val (.int ((p1 ||| ((286331153 : Int32) &&& (((1 : Int32) <<< ((28 : Int32) &&& 31)) - (1 : Int32)))) &&& (((15 : Int32) <<< ((28 : Int32) &&& 31)) ^^^ (-1 : Int32)))), .val (.int (0 : Int32)), .val (.int (0 : Int32))] [(.int (0 : Int32))])) _
                        refine XS.ifYes X95.here hx rfl (pc0 := 94) (pc' := 106) rfl (hb hby at_94) rfl ((if0 _ _).trans (teq (by decide : (0 : Int32) = (0 : Int32))).1) (by decide) (by decide) ?_
                        show Steps p.tables e below (T95.setTop (mkF m 106 #[.val (.int p1), .val (.int p2), .val (.int (7 : Int32)), .val (.int (((1 : Int32) <<< ((28 : Int32) &&& 31)) - (1 : Int32))), .val (.int (p1 ||| ((286331153 : Int32) &&& (((1 : Int32) <<< ((28 : Int32) &&& 31)) - (1 : Int32))))), .val (.int ((p1 ||| ((286331153 : Int32) &&& (((1 : Int32) <<< ((28 : Int32) &&& 31)) - (1 : Int32)))) &&& (((15 : Int32) <<< ((28 : Int32) &&& 31)) ^^^ (-1 : Int32)))), .val (.int (0 : Int32)), .val (.int (0 : Int32))] [])) _
                        refine XS.iconst X95.here hx rfl (hb hby at_106) ?_
                        show Steps p.tables e below (T95.setTop (mkF m 107 #[.val (.int p1), .val (.int p2), .val (.int (7 : Int32)), .val (.int (((1 : Int32) <<< ((28 : Int32) &&& 31)) - (1 : Int32))), .val (.int (p1 ||| ((286331153 : Int32) &&& (((1 : Int32) <<< ((28 : Int32) &&& 31)) - (1 : Int32))))), .val (.int ((p1 ||| ((286331153 : Int32) &&& (((1 : Int32) <<< ((28 : Int32) &&& 31)) - (1 : Int32)))) &&& (((15 : Int32) <<< ((28 : Int32) &&& 31)) ^^^ (-1 : Int32)))), .val (.int (0 : Int32)), .val (.int (0 : Int32))] [(.int (0 : Int32))])) _
                        exact retN X95 hx (t := .boolean) Bd.returns (by simp) (hb hby at_107) hr
                      · show own_Q0 Z p1 p2 h0 n0 _ T95.heap _
                        rw [e95]
                        exact ⟨(by rw [own_f0, if_neg hc1, if_neg hc5, if_neg hc9, if_neg hc13, if_neg hc17, if_neg hc21, if_neg hc25, if_pos hc29, if_neg hc30, if_neg hc32]), N96⟩
                ·
                  have hc33 : ((p2 &&& (2147483647 : Int32)) - ((p2 &&& (2147483647 : Int32)) / (9 : Int32)) * (9 : Int32)) = (8 : Int32) := own_exh p2 hc1 hc5 hc9 hc13 hc17 hc21 hc25 hc29
                  have k98 : ∀ t, Steps p.tables e below (s₁.setTop (mkF m 7 #[.val (.int p1), .val (.int p2), .unset, .unset, .unset, .unset, .unset, .unset] [(.int (8 : Int32))])) t → Steps p.tables e below (s₁.setTop (entryFrame m #[(.int p1), (.int p2)] maxLocals)) t := by
                    intro t kt
                    refine k1 t ?_
                    rw [hc33]
                    exact kt
                  obtain ⟨v99, _, ⟨T99, L99, k99, n99⟩, -, X99, ⟨Lc99, hQ99, l99, y99, z99⟩, st99⟩ := Jvm.LawKit.callS X0 hx (y := (⟨"com/example/kerb/kerb/txn/SoleLocks", "length", "(I)I"⟩ : MethodName)) hown (mvT hZ (hw _ (List.mem_of_getElem? (i := 2) rfl))) (mvT hZ (hw _ (List.mem_of_getElem? (i := 3) rfl))) (mvT hZ (hw _ (List.mem_of_getElem? (i := 4) rfl))) (mvT hZ (hw _ (List.mem_of_getElem? (i := 5) rfl))) (by decide) (backOf (W := 0) (own_rm1 l Z a0 hw [] p1 h0 n0 Z0) hZ (hw _ (List.mem_of_getElem? (i := 5) rfl)) (hw _ (List.mem_of_getElem? (i := 4) rfl)) (by decide) (by decide)) (g := (mkF m 59 #[.val (.int p1), .val (.int p2), .val (.int (8 : Int32)), .val (.int (-1 : Int32)), .val (.int (p1 ||| (286331153 : Int32))), .val (.int (p1 ||| (286331153 : Int32))), .unset, .unset] [(.int p1)])) rfl (by rw [hml]; rfl) (argsL := [(.int p1)]) (rest := []) (lenOf own_pd69 rfl) rfl (by show 2 * 0 + _ ≤ _; exact Nat.le_of_eq rfl) (hb hby at_59) (fun _ _ => ⟨rfl, e0, (by decide : 0 + 0 ≤ _), (by decide : 0 + 0 ≤ _)⟩)
                  dsimp only [Pt.U, Pt.locs, Pt.cells, Pt.slots] at X99 l99 y99 z99 st99 hQ99
                  subst l99 y99 z99
                  obtain ⟨rfl, N99q, e99⟩ := hQ99
                  have N100 := Fr.app N0 N99q
                  obtain ⟨v101, _, ⟨T101, L101, k101, n101⟩, -, X101, ⟨Lc101, hQ101, l101, y101, z101⟩, st101⟩ := Jvm.LawKit.callS X99 hx (y := (⟨"com/example/kerb/kerb/txn/SoleLocksLengthPinLaw", "ref", "(I)I"⟩ : MethodName)) hown (mvT hZ (hw _ (List.mem_of_getElem? (i := 6) rfl))) (mvT hZ (hw _ (List.mem_of_getElem? (i := 7) rfl))) (mvT hZ (hw _ (List.mem_of_getElem? (i := 8) rfl))) (mvT hZ (hw _ (List.mem_of_getElem? (i := 9) rfl))) (by decide) (backOf (W := 1) (own_rm2 l Z a0 hw [] p1 h0 n0 Z0) hZ (hw _ (List.mem_of_getElem? (i := 9) rfl)) (hw _ (List.mem_of_getElem? (i := 8) rfl)) (by decide) (by decide)) (g := (mkF m 63 #[.val (.int p1), .val (.int p2), .val (.int (8 : Int32)), .val (.int (-1 : Int32)), .val (.int (p1 ||| (286331153 : Int32))), .val (.int (p1 ||| (286331153 : Int32))), .unset, .unset] [(.int p1), (.int (own_f1 p1))])) rfl (by rw [hml]; rfl) (argsL := [(.int p1)]) (rest := [(.int (own_f1 p1))]) (lenOf own_pd69 rfl) rfl (by show 2 * 0 + _ ≤ _; exact Nat.le_of_eq rfl) (hb hby at_63) (fun _ _ => ⟨rfl, e99, (by decide : 0 + 0 ≤ _), (by decide : 0 + 0 ≤ _)⟩)
                  dsimp only [Pt.U, Pt.locs, Pt.cells, Pt.slots] at X101 l101 y101 z101 st101 hQ101
                  subst l101 y101 z101
                  obtain ⟨rfl, N101q, e101⟩ := hQ101
                  have N102 := Fr.app N100 N101q
                  have k103 : ∀ t, Steps p.tables e below (T101.setTop (mkF m 66 #[.val (.int p1), .val (.int p2), .val (.int (8 : Int32)), .val (.int (-1 : Int32)), .val (.int (p1 ||| (286331153 : Int32))), .val (.int (p1 ||| (286331153 : Int32))), .unset, .unset] [(.int (own_f2 p1)), (.int (own_f1 p1))])) t → Steps p.tables e below (s₁.setTop (entryFrame m #[(.int p1), (.int p2)] maxLocals)) t := by
                    intro t kt
                    refine k98 t ?_
                    show Steps p.tables e below (s₁.setTop (mkF m 7 #[.val (.int p1), .val (.int p2), .unset, .unset, .unset, .unset, .unset, .unset] [(.int (8 : Int32))])) _
                    refine XS.istoreN X0.here hx rfl (hb hby at_7) rfl (l' := #[.val (.int p1), .val (.int p2), .val (.int (8 : Int32)), .unset, .unset, .unset, .unset, .unset]) rfl ?_
                    show Steps p.tables e below (s₁.setTop (mkF m 8 #[.val (.int p1), .val (.int p2), .val (.int (8 : Int32)), .unset, .unset, .unset, .unset, .unset] [])) _
                    refine XS.iloadN X0.here hx rfl (hb hby at_8) rfl ?_
                    show Steps p.tables e below (s₁.setTop (mkF m 9 #[.val (.int p1), .val (.int p2), .val (.int (8 : Int32)), .unset, .unset, .unset, .unset, .unset] [(.int (8 : Int32))])) _
                    refine XS.bipush X0.here hx rfl (hb hby at_9) ?_
                    show Steps p.tables e below (s₁.setTop (mkF m 11 #[.val (.int p1), .val (.int p2), .val (.int (8 : Int32)), .unset, .unset, .unset, .unset, .unset] [(.int (8 : Int32)), (.int (8 : Int32))])) _
                    refine XS.icmpNo X0.here hx rfl (hb hby at_11) rfl (teq (by decide : (8 : Int32) = (8 : Int32))).2 ?_
                    show Steps p.tables e below (s₁.setTop (mkF m 14 #[.val (.int p1), .val (.int p2), .val (.int (8 : Int32)), .unset, .unset, .unset, .unset, .unset] [])) _
                    refine XS.iconst X0.here hx rfl (hb hby at_14) ?_
                    show Steps p.tables e below (s₁.setTop (mkF m 15 #[.val (.int p1), .val (.int p2), .val (.int (8 : Int32)), .unset, .unset, .unset, .unset, .unset] [(.int (-1 : Int32))])) _
                    refine XS.goto X0.here hx rfl (pc0 := 15) (pc' := 25) rfl (hb hby at_15) (by decide) (by decide) ?_
                    show Steps p.tables e below (s₁.setTop (mkF m 25 #[.val (.int p1), .val (.int p2), .val (.int (8 : Int32)), .unset, .unset, .unset, .unset, .unset] [(.int (-1 : Int32))])) _
                    refine XS.istoreN X0.here hx rfl (hb hby at_25) rfl (l' := #[.val (.int p1), .val (.int p2), .val (.int (8 : Int32)), .val (.int (-1 : Int32)), .unset, .unset, .unset, .unset]) rfl ?_
                    show Steps p.tables e below (s₁.setTop (mkF m 26 #[.val (.int p1), .val (.int p2), .val (.int (8 : Int32)), .val (.int (-1 : Int32)), .unset, .unset, .unset, .unset] [])) _
                    refine XS.iloadN X0.here hx rfl (hb hby at_26) rfl ?_
                    show Steps p.tables e below (s₁.setTop (mkF m 27 #[.val (.int p1), .val (.int p2), .val (.int (8 : Int32)), .val (.int (-1 : Int32)), .unset, .unset, .unset, .unset] [(.int p1)])) _
                    refine X0.ldcInt hx hown (mvT hZ (hw _ (List.mem_of_getElem? (i := 1) rfl))) (g := (mkF m 27 #[.val (.int p1), .val (.int p2), .val (.int (8 : Int32)), .val (.int (-1 : Int32)), .unset, .unset, .unset, .unset] [(.int p1)])) rfl (hb hby at_27) _ ?_
                    show Steps p.tables e below (s₁.setTop (mkF m 29 #[.val (.int p1), .val (.int p2), .val (.int (8 : Int32)), .val (.int (-1 : Int32)), .unset, .unset, .unset, .unset] [(.int (286331153 : Int32)), (.int p1)])) _
                    refine XS.iloadN X0.here hx rfl (hb hby at_29) rfl ?_
                    show Steps p.tables e below (s₁.setTop (mkF m 30 #[.val (.int p1), .val (.int p2), .val (.int (8 : Int32)), .val (.int (-1 : Int32)), .unset, .unset, .unset, .unset] [(.int (-1 : Int32)), (.int (286331153 : Int32)), (.int p1)])) _
                    refine XS.iand X0.here hx rfl (hb hby at_30) rfl ?_
                    show Steps p.tables e below (s₁.setTop (mkF m 31 #[.val (.int p1), .val (.int p2), .val (.int (8 : Int32)), .val (.int (-1 : Int32)), .unset, .unset, .unset, .unset] [(.int (286331153 : Int32)), (.int p1)])) _
                    refine XS.ior X0.here hx rfl (hb hby at_31) rfl ?_
                    show Steps p.tables e below (s₁.setTop (mkF m 32 #[.val (.int p1), .val (.int p2), .val (.int (8 : Int32)), .val (.int (-1 : Int32)), .unset, .unset, .unset, .unset] [(.int (p1 ||| (286331153 : Int32)))])) _
                    refine XS.istore X0.here hx rfl (hb hby at_32) rfl (l' := #[.val (.int p1), .val (.int p2), .val (.int (8 : Int32)), .val (.int (-1 : Int32)), .val (.int (p1 ||| (286331153 : Int32))), .unset, .unset, .unset]) rfl ?_
                    show Steps p.tables e below (s₁.setTop (mkF m 34 #[.val (.int p1), .val (.int p2), .val (.int (8 : Int32)), .val (.int (-1 : Int32)), .val (.int (p1 ||| (286331153 : Int32))), .unset, .unset, .unset] [])) _
                    refine XS.iloadN X0.here hx rfl (hb hby at_34) rfl ?_
                    show Steps p.tables e below (s₁.setTop (mkF m 35 #[.val (.int p1), .val (.int p2), .val (.int (8 : Int32)), .val (.int (-1 : Int32)), .val (.int (p1 ||| (286331153 : Int32))), .unset, .unset, .unset] [(.int (8 : Int32))])) _
                    refine XS.bipush X0.here hx rfl (hb hby at_35) ?_
                    show Steps p.tables e below (s₁.setTop (mkF m 37 #[.val (.int p1), .val (.int p2), .val (.int (8 : Int32)), .val (.int (-1 : Int32)), .val (.int (p1 ||| (286331153 : Int32))), .unset, .unset, .unset] [(.int (8 : Int32)), (.int (8 : Int32))])) _
                    refine XS.icmpNo X0.here hx rfl (hb hby at_37) rfl (teq (by decide : (8 : Int32) = (8 : Int32))).2 ?_
                    show Steps p.tables e below (s₁.setTop (mkF m 40 #[.val (.int p1), .val (.int p2), .val (.int (8 : Int32)), .val (.int (-1 : Int32)), .val (.int (p1 ||| (286331153 : Int32))), .unset, .unset, .unset] [])) _
                    refine XS.iload X0.here hx rfl (hb hby at_40) rfl ?_
                    show Steps p.tables e below (s₁.setTop (mkF m 42 #[.val (.int p1), .val (.int p2), .val (.int (8 : Int32)), .val (.int (-1 : Int32)), .val (.int (p1 ||| (286331153 : Int32))), .unset, .unset, .unset] [(.int (p1 ||| (286331153 : Int32)))])) _
                    refine XS.goto X0.here hx rfl (pc0 := 42) (pc' := 56) rfl (hb hby at_42) (by decide) (by decide) ?_
                    show Steps p.tables e below (s₁.setTop (mkF m 56 #[.val (.int p1), .val (.int p2), .val (.int (8 : Int32)), .val (.int (-1 : Int32)), .val (.int (p1 ||| (286331153 : Int32))), .unset, .unset, .unset] [(.int (p1 ||| (286331153 : Int32)))])) _
                    refine XS.istore X0.here hx rfl (hb hby at_56) rfl (l' := #[.val (.int p1), .val (.int p2), .val (.int (8 : Int32)), .val (.int (-1 : Int32)), .val (.int (p1 ||| (286331153 : Int32))), .val (.int (p1 ||| (286331153 : Int32))), .unset, .unset]) rfl ?_
                    show Steps p.tables e below (s₁.setTop (mkF m 58 #[.val (.int p1), .val (.int p2), .val (.int (8 : Int32)), .val (.int (-1 : Int32)), .val (.int (p1 ||| (286331153 : Int32))), .val (.int (p1 ||| (286331153 : Int32))), .unset, .unset] [])) _
                    refine XS.iloadN X0.here hx rfl (hb hby at_58) rfl ?_
                    show Steps p.tables e below (s₁.setTop (mkF m 59 #[.val (.int p1), .val (.int p2), .val (.int (8 : Int32)), .val (.int (-1 : Int32)), .val (.int (p1 ||| (286331153 : Int32))), .val (.int (p1 ||| (286331153 : Int32))), .unset, .unset] [(.int p1)])) _
                    refine st99 _ ?_
                    show Steps p.tables e below (T99.setTop (mkF m 62 #[.val (.int p1), .val (.int p2), .val (.int (8 : Int32)), .val (.int (-1 : Int32)), .val (.int (p1 ||| (286331153 : Int32))), .val (.int (p1 ||| (286331153 : Int32))), .unset, .unset] [(.int (own_f1 p1))])) _
                    refine XS.iloadN X99.here hx rfl (hb hby at_62) rfl ?_
                    show Steps p.tables e below (T99.setTop (mkF m 63 #[.val (.int p1), .val (.int p2), .val (.int (8 : Int32)), .val (.int (-1 : Int32)), .val (.int (p1 ||| (286331153 : Int32))), .val (.int (p1 ||| (286331153 : Int32))), .unset, .unset] [(.int p1), (.int (own_f1 p1))])) _
                    refine st101 _ ?_
                    exact kt
                  by_cases hc34 : (own_f1 p1) = (own_f2 p1)
                  ·
                    obtain ⟨v104, _, ⟨T104, L104, k104, n104⟩, -, X104, ⟨Lc104, hQ104, l104, y104, z104⟩, st104⟩ := Jvm.LawKit.callS X101 hx (y := (⟨"com/example/kerb/kerb/txn/SoleLocks", "length", "(I)I"⟩ : MethodName)) hown (mvT hZ (hw _ (List.mem_of_getElem? (i := 2) rfl))) (mvT hZ (hw _ (List.mem_of_getElem? (i := 3) rfl))) (mvT hZ (hw _ (List.mem_of_getElem? (i := 4) rfl))) (mvT hZ (hw _ (List.mem_of_getElem? (i := 5) rfl))) (by decide) (backOf (W := 0) (own_rm1 l Z a0 hw [] (p1 ||| (286331153 : Int32)) h0 n0 Z0) hZ (hw _ (List.mem_of_getElem? (i := 5) rfl)) (hw _ (List.mem_of_getElem? (i := 4) rfl)) (by decide) (by decide)) (g := (mkF m 78 #[.val (.int p1), .val (.int p2), .val (.int (8 : Int32)), .val (.int (-1 : Int32)), .val (.int (p1 ||| (286331153 : Int32))), .val (.int (p1 ||| (286331153 : Int32))), .val (.int (1 : Int32)), .unset] [(.int (p1 ||| (286331153 : Int32)))])) rfl (by rw [hml]; rfl) (argsL := [(.int (p1 ||| (286331153 : Int32)))]) (rest := []) (lenOf own_pd69 rfl) rfl (by show 2 * 0 + _ ≤ _; exact Nat.le_of_eq rfl) (hb hby at_78) (fun _ _ => ⟨rfl, e101, (by decide : 0 + 0 ≤ _), (by decide : 0 + 0 ≤ _)⟩)
                    dsimp only [Pt.U, Pt.locs, Pt.cells, Pt.slots] at X104 l104 y104 z104 st104 hQ104
                    subst l104 y104 z104
                    obtain ⟨rfl, N104q, e104⟩ := hQ104
                    have N105 := Fr.app N102 N104q
                    have k106 : ∀ t, Steps p.tables e below (T104.setTop (mkF m 82 #[.val (.int p1), .val (.int p2), .val (.int (8 : Int32)), .val (.int (-1 : Int32)), .val (.int (p1 ||| (286331153 : Int32))), .val (.int (p1 ||| (286331153 : Int32))), .val (.int (1 : Int32)), .unset] [(.int (8 : Int32)), (.int (own_f1 (p1 ||| (286331153 : Int32))))])) t → Steps p.tables e below (s₁.setTop (entryFrame m #[(.int p1), (.int p2)] maxLocals)) t := by
                      intro t kt
                      refine k103 t ?_
                      show Steps p.tables e below (T101.setTop (mkF m 66 #[.val (.int p1), .val (.int p2), .val (.int (8 : Int32)), .val (.int (-1 : Int32)), .val (.int (p1 ||| (286331153 : Int32))), .val (.int (p1 ||| (286331153 : Int32))), .unset, .unset] [(.int (own_f2 p1)), (.int (own_f1 p1))])) _
                      refine XS.icmpNo X101.here hx rfl (hb hby at_66) rfl (teq hc34).2 ?_
                      show Steps p.tables e below (T101.setTop (mkF m 69 #[.val (.int p1), .val (.int p2), .val (.int (8 : Int32)), .val (.int (-1 : Int32)), .val (.int (p1 ||| (286331153 : Int32))), .val (.int (p1 ||| (286331153 : Int32))), .unset, .unset] [])) _
                      refine XS.iconst X101.here hx rfl (hb hby at_69) ?_
                      show Steps p.tables e below (T101.setTop (mkF m 70 #[.val (.int p1), .val (.int p2), .val (.int (8 : Int32)), .val (.int (-1 : Int32)), .val (.int (p1 ||| (286331153 : Int32))), .val (.int (p1 ||| (286331153 : Int32))), .unset, .unset] [(.int (1 : Int32))])) _
                      refine XS.goto X101.here hx rfl (pc0 := 70) (pc' := 74) rfl (hb hby at_70) (by decide) (by decide) ?_
                      show Steps p.tables e below (T101.setTop (mkF m 74 #[.val (.int p1), .val (.int p2), .val (.int (8 : Int32)), .val (.int (-1 : Int32)), .val (.int (p1 ||| (286331153 : Int32))), .val (.int (p1 ||| (286331153 : Int32))), .unset, .unset] [(.int (1 : Int32))])) _
                      refine XS.istore X101.here hx rfl (hb hby at_74) rfl (l' := #[.val (.int p1), .val (.int p2), .val (.int (8 : Int32)), .val (.int (-1 : Int32)), .val (.int (p1 ||| (286331153 : Int32))), .val (.int (p1 ||| (286331153 : Int32))), .val (.int (1 : Int32)), .unset]) rfl ?_
                      show Steps p.tables e below (T101.setTop (mkF m 76 #[.val (.int p1), .val (.int p2), .val (.int (8 : Int32)), .val (.int (-1 : Int32)), .val (.int (p1 ||| (286331153 : Int32))), .val (.int (p1 ||| (286331153 : Int32))), .val (.int (1 : Int32)), .unset] [])) _
                      refine XS.iload X101.here hx rfl (hb hby at_76) rfl ?_
                      show Steps p.tables e below (T101.setTop (mkF m 78 #[.val (.int p1), .val (.int p2), .val (.int (8 : Int32)), .val (.int (-1 : Int32)), .val (.int (p1 ||| (286331153 : Int32))), .val (.int (p1 ||| (286331153 : Int32))), .val (.int (1 : Int32)), .unset] [(.int (p1 ||| (286331153 : Int32)))])) _
                      refine st104 _ ?_
                      show Steps p.tables e below (T104.setTop (mkF m 81 #[.val (.int p1), .val (.int p2), .val (.int (8 : Int32)), .val (.int (-1 : Int32)), .val (.int (p1 ||| (286331153 : Int32))), .val (.int (p1 ||| (286331153 : Int32))), .val (.int (1 : Int32)), .unset] [(.int (own_f1 (p1 ||| (286331153 : Int32))))])) _
                      refine XS.iloadN X104.here hx rfl (hb hby at_81) rfl ?_
                      exact kt
                    by_cases hc35 : (own_f1 (p1 ||| (286331153 : Int32))) = (8 : Int32)
                    ·
                      obtain ⟨fs, hr, hrun, hended, hW, hsame⟩ := X104.leave (v := some (.int (1 : Int32))) (fun h => by rw [Bd.returns] at h; cases h)
                      refine ⟨_, _, k106 _ ?_, hrun, hended, _, _, rfl, ?_, ⟨_, rfl⟩, hW, hsame.mono (by decide) (by decide)⟩
                      · show Steps p.tables e below (T104.setTop (mkF m 82 #[.val (.int p1), .val (.int p2), .val (.int (8 : Int32)), .val (.int (-1 : Int32)), .val (.int (p1 ||| (286331153 : Int32))), .val (.int (p1 ||| (286331153 : Int32))), .val (.int (1 : Int32)), .unset] [(.int (8 : Int32)), (.int (own_f1 (p1 ||| (286331153 : Int32))))])) _
                        refine XS.icmpNo X104.here hx rfl (hb hby at_82) rfl (teq hc35).2 ?_
                        show Steps p.tables e below (T104.setTop (mkF m 85 #[.val (.int p1), .val (.int p2), .val (.int (8 : Int32)), .val (.int (-1 : Int32)), .val (.int (p1 ||| (286331153 : Int32))), .val (.int (p1 ||| (286331153 : Int32))), .val (.int (1 : Int32)), .unset] [])) _
                        refine XS.iconst X104.here hx rfl (hb hby at_85) ?_
                        show Steps p.tables e below (T104.setTop (mkF m 86 #[.val (.int p1), .val (.int p2), .val (.int (8 : Int32)), .val (.int (-1 : Int32)), .val (.int (p1 ||| (286331153 : Int32))), .val (.int (p1 ||| (286331153 : Int32))), .val (.int (1 : Int32)), .unset] [(.int (1 : Int32))])) _
                        refine XS.goto X104.here hx rfl (pc0 := 86) (pc' := 90) rfl (hb hby at_86) (by decide) (by decide) ?_
                        show Steps p.tables e below (T104.setTop (mkF m 90 #[.val (.int p1), .val (.int p2), .val (.int (8 : Int32)), .val (.int (-1 : Int32)), .val (.int (p1 ||| (286331153 : Int32))), .val (.int (p1 ||| (286331153 : Int32))), .val (.int (1 : Int32)), .unset] [(.int (1 : Int32))])) _
                        refine XS.istore X104.here hx rfl (hb hby at_90) rfl (l' := #[.val (.int p1), .val (.int p2), .val (.int (8 : Int32)), .val (.int (-1 : Int32)), .val (.int (p1 ||| (286331153 : Int32))), .val (.int (p1 ||| (286331153 : Int32))), .val (.int (1 : Int32)), .val (.int (1 : Int32))]) rfl ?_
                        show Steps p.tables e below (T104.setTop (mkF m 92 #[.val (.int p1), .val (.int p2), .val (.int (8 : Int32)), .val (.int (-1 : Int32)), .val (.int (p1 ||| (286331153 : Int32))), .val (.int (p1 ||| (286331153 : Int32))), .val (.int (1 : Int32)), .val (.int (1 : Int32))] [])) _
                        refine XS.iload X104.here hx rfl (hb hby at_92) rfl ?_
                        show Steps p.tables e below (T104.setTop (mkF m 94 #[.val (.int p1), .val (.int p2), .val (.int (8 : Int32)), .val (.int (-1 : Int32)), .val (.int (p1 ||| (286331153 : Int32))), .val (.int (p1 ||| (286331153 : Int32))), .val (.int (1 : Int32)), .val (.int (1 : Int32))] [(.int (1 : Int32))])) _
                        refine XS.ifNo X104.here hx rfl (hb hby at_94) rfl ((if0 _ _).trans (feq (by decide : ¬ ((1 : Int32) = (0 : Int32)))).1) ?_
                        show Steps p.tables e below (T104.setTop (mkF m 97 #[.val (.int p1), .val (.int p2), .val (.int (8 : Int32)), .val (.int (-1 : Int32)), .val (.int (p1 ||| (286331153 : Int32))), .val (.int (p1 ||| (286331153 : Int32))), .val (.int (1 : Int32)), .val (.int (1 : Int32))] [])) _
                        refine XS.iload X104.here hx rfl (hb hby at_97) rfl ?_
                        show Steps p.tables e below (T104.setTop (mkF m 99 #[.val (.int p1), .val (.int p2), .val (.int (8 : Int32)), .val (.int (-1 : Int32)), .val (.int (p1 ||| (286331153 : Int32))), .val (.int (p1 ||| (286331153 : Int32))), .val (.int (1 : Int32)), .val (.int (1 : Int32))] [(.int (1 : Int32))])) _
                        refine XS.ifNo X104.here hx rfl (hb hby at_99) rfl ((if0 _ _).trans (feq (by decide : ¬ ((1 : Int32) = (0 : Int32)))).1) ?_
                        show Steps p.tables e below (T104.setTop (mkF m 102 #[.val (.int p1), .val (.int p2), .val (.int (8 : Int32)), .val (.int (-1 : Int32)), .val (.int (p1 ||| (286331153 : Int32))), .val (.int (p1 ||| (286331153 : Int32))), .val (.int (1 : Int32)), .val (.int (1 : Int32))] [])) _
                        refine XS.iconst X104.here hx rfl (hb hby at_102) ?_
                        show Steps p.tables e below (T104.setTop (mkF m 103 #[.val (.int p1), .val (.int p2), .val (.int (8 : Int32)), .val (.int (-1 : Int32)), .val (.int (p1 ||| (286331153 : Int32))), .val (.int (p1 ||| (286331153 : Int32))), .val (.int (1 : Int32)), .val (.int (1 : Int32))] [(.int (1 : Int32))])) _
                        refine XS.goto X104.here hx rfl (pc0 := 103) (pc' := 107) rfl (hb hby at_103) (by decide) (by decide) ?_
                        show Steps p.tables e below (T104.setTop (mkF m 107 #[.val (.int p1), .val (.int p2), .val (.int (8 : Int32)), .val (.int (-1 : Int32)), .val (.int (p1 ||| (286331153 : Int32))), .val (.int (p1 ||| (286331153 : Int32))), .val (.int (1 : Int32)), .val (.int (1 : Int32))] [(.int (1 : Int32))])) _
                        exact retN X104 hx (t := .boolean) Bd.returns (by simp) (hb hby at_107) hr
                      · show own_Q0 Z p1 p2 h0 n0 _ T104.heap _
                        rw [e104]
                        exact ⟨(by rw [own_f0, if_neg hc1, if_neg hc5, if_neg hc9, if_neg hc13, if_neg hc17, if_neg hc21, if_neg hc25, if_neg hc29, if_pos hc34, if_pos hc35]), N105⟩
                    ·
                      obtain ⟨fs, hr, hrun, hended, hW, hsame⟩ := X104.leave (v := some (.int (0 : Int32))) (fun h => by rw [Bd.returns] at h; cases h)
                      refine ⟨_, _, k106 _ ?_, hrun, hended, _, _, rfl, ?_, ⟨_, rfl⟩, hW, hsame.mono (by decide) (by decide)⟩
                      · show Steps p.tables e below (T104.setTop (mkF m 82 #[.val (.int p1), .val (.int p2), .val (.int (8 : Int32)), .val (.int (-1 : Int32)), .val (.int (p1 ||| (286331153 : Int32))), .val (.int (p1 ||| (286331153 : Int32))), .val (.int (1 : Int32)), .unset] [(.int (8 : Int32)), (.int (own_f1 (p1 ||| (286331153 : Int32))))])) _
                        refine XS.icmpYes X104.here hx rfl (pc0 := 82) (pc' := 89) rfl (hb hby at_82) rfl (feq hc35).2 (by decide) (by decide) ?_
                        show Steps p.tables e below (T104.setTop (mkF m 89 #[.val (.int p1), .val (.int p2), .val (.int (8 : Int32)), .val (.int (-1 : Int32)), .val (.int (p1 ||| (286331153 : Int32))), .val (.int (p1 ||| (286331153 : Int32))), .val (.int (1 : Int32)), .unset] [])) _
                        refine XS.iconst X104.here hx rfl (hb hby at_89) ?_
                        show Steps p.tables e below (T104.setTop (mkF m 90 #[.val (.int p1), .val (.int p2), .val (.int (8 : Int32)), .val (.int (-1 : Int32)), .val (.int (p1 ||| (286331153 : Int32))), .val (.int (p1 ||| (286331153 : Int32))), .val (.int (1 : Int32)), .unset] [(.int (0 : Int32))])) _
                        refine XS.istore X104.here hx rfl (hb hby at_90) rfl (l' := #[.val (.int p1), .val (.int p2), .val (.int (8 : Int32)), .val (.int (-1 : Int32)), .val (.int (p1 ||| (286331153 : Int32))), .val (.int (p1 ||| (286331153 : Int32))), .val (.int (1 : Int32)), .val (.int (0 : Int32))]) rfl ?_
                        show Steps p.tables e below (T104.setTop (mkF m 92 #[.val (.int p1), .val (.int p2), .val (.int (8 : Int32)), .val (.int (-1 : Int32)), .val (.int (p1 ||| (286331153 : Int32))), .val (.int (p1 ||| (286331153 : Int32))), .val (.int (1 : Int32)), .val (.int (0 : Int32))] [])) _
                        refine XS.iload X104.here hx rfl (hb hby at_92) rfl ?_
                        show Steps p.tables e below (T104.setTop (mkF m 94 #[.val (.int p1), .val (.int p2), .val (.int (8 : Int32)), .val (.int (-1 : Int32)), .val (.int (p1 ||| (286331153 : Int32))), .val (.int (p1 ||| (286331153 : Int32))), .val (.int (1 : Int32)), .val (.int (0 : Int32))] [(.int (1 : Int32))])) _
                        refine XS.ifNo X104.here hx rfl (hb hby at_94) rfl ((if0 _ _).trans (feq (by decide : ¬ ((1 : Int32) = (0 : Int32)))).1) ?_
                        show Steps p.tables e below (T104.setTop (mkF m 97 #[.val (.int p1), .val (.int p2), .val (.int (8 : Int32)), .val (.int (-1 : Int32)), .val (.int (p1 ||| (286331153 : Int32))), .val (.int (p1 ||| (286331153 : Int32))), .val (.int (1 : Int32)), .val (.int (0 : Int32))] [])) _
                        refine XS.iload X104.here hx rfl (hb hby at_97) rfl ?_
                        show Steps p.tables e below (T104.setTop (mkF m 99 #[.val (.int p1), .val (.int p2), .val (.int (8 : Int32)), .val (.int (-1 : Int32)), .val (.int (p1 ||| (286331153 : Int32))), .val (.int (p1 ||| (286331153 : Int32))), .val (.int (1 : Int32)), .val (.int (0 : Int32))] [(.int (0 : Int32))])) _
                        refine XS.ifYes X104.here hx rfl (pc0 := 99) (pc' := 106) rfl (hb hby at_99) rfl ((if0 _ _).trans (teq (by decide : (0 : Int32) = (0 : Int32))).1) (by decide) (by decide) ?_
                        show Steps p.tables e below (T104.setTop (mkF m 106 #[.val (.int p1), .val (.int p2), .val (.int (8 : Int32)), .val (.int (-1 : Int32)), .val (.int (p1 ||| (286331153 : Int32))), .val (.int (p1 ||| (286331153 : Int32))), .val (.int (1 : Int32)), .val (.int (0 : Int32))] [])) _
                        refine XS.iconst X104.here hx rfl (hb hby at_106) ?_
                        show Steps p.tables e below (T104.setTop (mkF m 107 #[.val (.int p1), .val (.int p2), .val (.int (8 : Int32)), .val (.int (-1 : Int32)), .val (.int (p1 ||| (286331153 : Int32))), .val (.int (p1 ||| (286331153 : Int32))), .val (.int (1 : Int32)), .val (.int (0 : Int32))] [(.int (0 : Int32))])) _
                        exact retN X104 hx (t := .boolean) Bd.returns (by simp) (hb hby at_107) hr
                      · show own_Q0 Z p1 p2 h0 n0 _ T104.heap _
                        rw [e104]
                        exact ⟨(by rw [own_f0, if_neg hc1, if_neg hc5, if_neg hc9, if_neg hc13, if_neg hc17, if_neg hc21, if_neg hc25, if_neg hc29, if_pos hc34, if_neg hc35]), N105⟩
                  ·
                    obtain ⟨v107, _, ⟨T107, L107, k107, n107⟩, -, X107, ⟨Lc107, hQ107, l107, y107, z107⟩, st107⟩ := Jvm.LawKit.callS X101 hx (y := (⟨"com/example/kerb/kerb/txn/SoleLocks", "length", "(I)I"⟩ : MethodName)) hown (mvT hZ (hw _ (List.mem_of_getElem? (i := 2) rfl))) (mvT hZ (hw _ (List.mem_of_getElem? (i := 3) rfl))) (mvT hZ (hw _ (List.mem_of_getElem? (i := 4) rfl))) (mvT hZ (hw _ (List.mem_of_getElem? (i := 5) rfl))) (by decide) (backOf (W := 0) (own_rm1 l Z a0 hw [] (p1 ||| (286331153 : Int32)) h0 n0 Z0) hZ (hw _ (List.mem_of_getElem? (i := 5) rfl)) (hw _ (List.mem_of_getElem? (i := 4) rfl)) (by decide) (by decide)) (g := (mkF m 78 #[.val (.int p1), .val (.int p2), .val (.int (8 : Int32)), .val (.int (-1 : Int32)), .val (.int (p1 ||| (286331153 : Int32))), .val (.int (p1 ||| (286331153 : Int32))), .val (.int (0 : Int32)), .unset] [(.int (p1 ||| (286331153 : Int32)))])) rfl (by rw [hml]; rfl) (argsL := [(.int (p1 ||| (286331153 : Int32)))]) (rest := []) (lenOf own_pd69 rfl) rfl (by show 2 * 0 + _ ≤ _; exact Nat.le_of_eq rfl) (hb hby at_78) (fun _ _ => ⟨rfl, e101, (by decide : 0 + 0 ≤ _), (by decide : 0 + 0 ≤ _)⟩)
                    dsimp only [Pt.U, Pt.locs, Pt.cells, Pt.slots] at X107 l107 y107 z107 st107 hQ107
                    subst l107 y107 z107
                    obtain ⟨rfl, N107q, e107⟩ := hQ107
                    have N108 := Fr.app N102 N107q
                    have k109 : ∀ t, Steps p.tables e below (T107.setTop (mkF m 82 #[.val (.int p1), .val (.int p2), .val (.int (8 : Int32)), .val (.int (-1 : Int32)), .val (.int (p1 ||| (286331153 : Int32))), .val (.int (p1 ||| (286331153 : Int32))), .val (.int (0 : Int32)), .unset] [(.int (8 : Int32)), (.int (own_f1 (p1 ||| (286331153 : Int32))))])) t → Steps p.tables e below (s₁.setTop (entryFrame m #[(.int p1), (.int p2)] maxLocals)) t := by
                      intro t kt
                      refine k103 t ?_
                      show Steps p.tables e below (T101.setTop (mkF m 66 #[.val (.int p1), .val (.int p2), .val (.int (8 : Int32)), .val (.int (-1 : Int32)), .val (.int (p1 ||| (286331153 : Int32))), .val (.int (p1 ||| (286331153 : Int32))), .unset, .unset] [(.int (own_f2 p1)), (.int (own_f1 p1))])) _
                      refine XS.icmpYes X101.here hx rfl (pc0 := 66) (pc' := 73) rfl (hb hby at_66) rfl (feq hc34).2 (by decide) (by decide) ?_
                      show Steps p.tables e below (T101.setTop (mkF m 73 #[.val (.int p1), .val (.int p2), .val (.int (8 : Int32)), .val (.int (-1 : Int32)), .val (.int (p1 ||| (286331153 : Int32))), .val (.int (p1 ||| (286331153 : Int32))), .unset, .unset] [])) _
                      refine XS.iconst X101.here hx rfl (hb hby at_73) ?_
                      show Steps p.tables e below (T101.setTop (mkF m 74 #[.val (.int p1), .val (.int p2), .val (.int (8 : Int32)), .val (.int (-1 : Int32)), .val (.int (p1 ||| (286331153 : Int32))), .val (.int (p1 ||| (286331153 : Int32))), .unset, .unset] [(.int (0 : Int32))])) _
                      refine XS.istore X101.here hx rfl (hb hby at_74) rfl (l' := #[.val (.int p1), .val (.int p2), .val (.int (8 : Int32)), .val (.int (-1 : Int32)), .val (.int (p1 ||| (286331153 : Int32))), .val (.int (p1 ||| (286331153 : Int32))), .val (.int (0 : Int32)), .unset]) rfl ?_
                      show Steps p.tables e below (T101.setTop (mkF m 76 #[.val (.int p1), .val (.int p2), .val (.int (8 : Int32)), .val (.int (-1 : Int32)), .val (.int (p1 ||| (286331153 : Int32))), .val (.int (p1 ||| (286331153 : Int32))), .val (.int (0 : Int32)), .unset] [])) _
                      refine XS.iload X101.here hx rfl (hb hby at_76) rfl ?_
                      show Steps p.tables e below (T101.setTop (mkF m 78 #[.val (.int p1), .val (.int p2), .val (.int (8 : Int32)), .val (.int (-1 : Int32)), .val (.int (p1 ||| (286331153 : Int32))), .val (.int (p1 ||| (286331153 : Int32))), .val (.int (0 : Int32)), .unset] [(.int (p1 ||| (286331153 : Int32)))])) _
                      refine st107 _ ?_
                      show Steps p.tables e below (T107.setTop (mkF m 81 #[.val (.int p1), .val (.int p2), .val (.int (8 : Int32)), .val (.int (-1 : Int32)), .val (.int (p1 ||| (286331153 : Int32))), .val (.int (p1 ||| (286331153 : Int32))), .val (.int (0 : Int32)), .unset] [(.int (own_f1 (p1 ||| (286331153 : Int32))))])) _
                      refine XS.iloadN X107.here hx rfl (hb hby at_81) rfl ?_
                      exact kt
                    by_cases hc36 : (own_f1 (p1 ||| (286331153 : Int32))) = (8 : Int32)
                    ·
                      obtain ⟨fs, hr, hrun, hended, hW, hsame⟩ := X107.leave (v := some (.int (0 : Int32))) (fun h => by rw [Bd.returns] at h; cases h)
                      refine ⟨_, _, k109 _ ?_, hrun, hended, _, _, rfl, ?_, ⟨_, rfl⟩, hW, hsame.mono (by decide) (by decide)⟩
                      · show Steps p.tables e below (T107.setTop (mkF m 82 #[.val (.int p1), .val (.int p2), .val (.int (8 : Int32)), .val (.int (-1 : Int32)), .val (.int (p1 ||| (286331153 : Int32))), .val (.int (p1 ||| (286331153 : Int32))), .val (.int (0 : Int32)), .unset] [(.int (8 : Int32)), (.int (own_f1 (p1 ||| (286331153 : Int32))))])) _
                        refine XS.icmpNo X107.here hx rfl (hb hby at_82) rfl (teq hc36).2 ?_
                        show Steps p.tables e below (T107.setTop (mkF m 85 #[.val (.int p1), .val (.int p2), .val (.int (8 : Int32)), .val (.int (-1 : Int32)), .val (.int (p1 ||| (286331153 : Int32))), .val (.int (p1 ||| (286331153 : Int32))), .val (.int (0 : Int32)), .unset] [])) _
                        refine XS.iconst X107.here hx rfl (hb hby at_85) ?_
                        show Steps p.tables e below (T107.setTop (mkF m 86 #[.val (.int p1), .val (.int p2), .val (.int (8 : Int32)), .val (.int (-1 : Int32)), .val (.int (p1 ||| (286331153 : Int32))), .val (.int (p1 ||| (286331153 : Int32))), .val (.int (0 : Int32)), .unset] [(.int (1 : Int32))])) _
                        refine XS.goto X107.here hx rfl (pc0 := 86) (pc' := 90) rfl (hb hby at_86) (by decide) (by decide) ?_
                        show Steps p.tables e below (T107.setTop (mkF m 90 #[.val (.int p1), .val (.int p2), .val (.int (8 : Int32)), .val (.int (-1 : Int32)), .val (.int (p1 ||| (286331153 : Int32))), .val (.int (p1 ||| (286331153 : Int32))), .val (.int (0 : Int32)), .unset] [(.int (1 : Int32))])) _
                        refine XS.istore X107.here hx rfl (hb hby at_90) rfl (l' := #[.val (.int p1), .val (.int p2), .val (.int (8 : Int32)), .val (.int (-1 : Int32)), .val (.int (p1 ||| (286331153 : Int32))), .val (.int (p1 ||| (286331153 : Int32))), .val (.int (0 : Int32)), .val (.int (1 : Int32))]) rfl ?_
                        show Steps p.tables e below (T107.setTop (mkF m 92 #[.val (.int p1), .val (.int p2), .val (.int (8 : Int32)), .val (.int (-1 : Int32)), .val (.int (p1 ||| (286331153 : Int32))), .val (.int (p1 ||| (286331153 : Int32))), .val (.int (0 : Int32)), .val (.int (1 : Int32))] [])) _
                        refine XS.iload X107.here hx rfl (hb hby at_92) rfl ?_
                        show Steps p.tables e below (T107.setTop (mkF m 94 #[.val (.int p1), .val (.int p2), .val (.int (8 : Int32)), .val (.int (-1 : Int32)), .val (.int (p1 ||| (286331153 : Int32))), .val (.int (p1 ||| (286331153 : Int32))), .val (.int (0 : Int32)), .val (.int (1 : Int32))] [(.int (0 : Int32))])) _
                        refine XS.ifYes X107.here hx rfl (pc0 := 94) (pc' := 106) rfl (hb hby at_94) rfl ((if0 _ _).trans (teq (by decide : (0 : Int32) = (0 : Int32))).1) (by decide) (by decide) ?_
                        show Steps p.tables e below (T107.setTop (mkF m 106 #[.val (.int p1), .val (.int p2), .val (.int (8 : Int32)), .val (.int (-1 : Int32)), .val (.int (p1 ||| (286331153 : Int32))), .val (.int (p1 ||| (286331153 : Int32))), .val (.int (0 : Int32)), .val (.int (1 : Int32))] [])) _
                        refine XS.iconst X107.here hx rfl (hb hby at_106) ?_
                        show Steps p.tables e below (T107.setTop (mkF m 107 #[.val (.int p1), .val (.int p2), .val (.int (8 : Int32)), .val (.int (-1 : Int32)), .val (.int (p1 ||| (286331153 : Int32))), .val (.int (p1 ||| (286331153 : Int32))), .val (.int (0 : Int32)), .val (.int (1 : Int32))] [(.int (0 : Int32))])) _
                        exact retN X107 hx (t := .boolean) Bd.returns (by simp) (hb hby at_107) hr
                      · show own_Q0 Z p1 p2 h0 n0 _ T107.heap _
                        rw [e107]
                        exact ⟨(by rw [own_f0, if_neg hc1, if_neg hc5, if_neg hc9, if_neg hc13, if_neg hc17, if_neg hc21, if_neg hc25, if_neg hc29, if_neg hc34, if_pos hc36]), N108⟩
                    ·
                      obtain ⟨fs, hr, hrun, hended, hW, hsame⟩ := X107.leave (v := some (.int (0 : Int32))) (fun h => by rw [Bd.returns] at h; cases h)
                      refine ⟨_, _, k109 _ ?_, hrun, hended, _, _, rfl, ?_, ⟨_, rfl⟩, hW, hsame.mono (by decide) (by decide)⟩
                      · show Steps p.tables e below (T107.setTop (mkF m 82 #[.val (.int p1), .val (.int p2), .val (.int (8 : Int32)), .val (.int (-1 : Int32)), .val (.int (p1 ||| (286331153 : Int32))), .val (.int (p1 ||| (286331153 : Int32))), .val (.int (0 : Int32)), .unset] [(.int (8 : Int32)), (.int (own_f1 (p1 ||| (286331153 : Int32))))])) _
                        refine XS.icmpYes X107.here hx rfl (pc0 := 82) (pc' := 89) rfl (hb hby at_82) rfl (feq hc36).2 (by decide) (by decide) ?_
                        show Steps p.tables e below (T107.setTop (mkF m 89 #[.val (.int p1), .val (.int p2), .val (.int (8 : Int32)), .val (.int (-1 : Int32)), .val (.int (p1 ||| (286331153 : Int32))), .val (.int (p1 ||| (286331153 : Int32))), .val (.int (0 : Int32)), .unset] [])) _
                        refine XS.iconst X107.here hx rfl (hb hby at_89) ?_
                        show Steps p.tables e below (T107.setTop (mkF m 90 #[.val (.int p1), .val (.int p2), .val (.int (8 : Int32)), .val (.int (-1 : Int32)), .val (.int (p1 ||| (286331153 : Int32))), .val (.int (p1 ||| (286331153 : Int32))), .val (.int (0 : Int32)), .unset] [(.int (0 : Int32))])) _
                        refine XS.istore X107.here hx rfl (hb hby at_90) rfl (l' := #[.val (.int p1), .val (.int p2), .val (.int (8 : Int32)), .val (.int (-1 : Int32)), .val (.int (p1 ||| (286331153 : Int32))), .val (.int (p1 ||| (286331153 : Int32))), .val (.int (0 : Int32)), .val (.int (0 : Int32))]) rfl ?_
                        show Steps p.tables e below (T107.setTop (mkF m 92 #[.val (.int p1), .val (.int p2), .val (.int (8 : Int32)), .val (.int (-1 : Int32)), .val (.int (p1 ||| (286331153 : Int32))), .val (.int (p1 ||| (286331153 : Int32))), .val (.int (0 : Int32)), .val (.int (0 : Int32))] [])) _
                        refine XS.iload X107.here hx rfl (hb hby at_92) rfl ?_
                        show Steps p.tables e below (T107.setTop (mkF m 94 #[.val (.int p1), .val (.int p2), .val (.int (8 : Int32)), .val (.int (-1 : Int32)), .val (.int (p1 ||| (286331153 : Int32))), .val (.int (p1 ||| (286331153 : Int32))), .val (.int (0 : Int32)), .val (.int (0 : Int32))] [(.int (0 : Int32))])) _
                        refine XS.ifYes X107.here hx rfl (pc0 := 94) (pc' := 106) rfl (hb hby at_94) rfl ((if0 _ _).trans (teq (by decide : (0 : Int32) = (0 : Int32))).1) (by decide) (by decide) ?_
                        show Steps p.tables e below (T107.setTop (mkF m 106 #[.val (.int p1), .val (.int p2), .val (.int (8 : Int32)), .val (.int (-1 : Int32)), .val (.int (p1 ||| (286331153 : Int32))), .val (.int (p1 ||| (286331153 : Int32))), .val (.int (0 : Int32)), .val (.int (0 : Int32))] [])) _
                        refine XS.iconst X107.here hx rfl (hb hby at_106) ?_
                        show Steps p.tables e below (T107.setTop (mkF m 107 #[.val (.int p1), .val (.int p2), .val (.int (8 : Int32)), .val (.int (-1 : Int32)), .val (.int (p1 ||| (286331153 : Int32))), .val (.int (p1 ||| (286331153 : Int32))), .val (.int (0 : Int32)), .val (.int (0 : Int32))] [(.int (0 : Int32))])) _
                        exact retN X107 hx (t := .boolean) Bd.returns (by simp) (hb hby at_107) hr
                      · show own_Q0 Z p1 p2 h0 n0 _ T107.heap _
                        rw [e107]
                        exact ⟨(by rw [own_f0, if_neg hc1, if_neg hc5, if_neg hc9, if_neg hc13, if_neg hc17, if_neg hc21, if_neg hc25, if_neg hc29, if_neg hc34, if_neg hc36]), N108⟩
theorem own_shl (x : BitVec 32) (k : Nat) : x &&& (15#32 <<< k) = ((x >>> k) &&& 15#32) <<< k := by
  apply BitVec.eq_of_getLsbD_eq
  intro i hi
  simp only [BitVec.getLsbD_and, BitVec.getLsbD_shiftLeft, BitVec.getLsbD_ushiftRight]
  by_cases h : i < k
  · simp [h]
  · simp [h, hi, show k + (i - k) = i by omega]
theorem own_shl0 (y : BitVec 32) (k : Nat) (hk : k ≤ 28) : ((y &&& 15#32) <<< k = 0#32) = (y &&& 15#32 = 0#32) := by
  apply propext
  constructor
  · intro h
    have hy : (y &&& 15#32).toNat < 16 := by
      rw [BitVec.toNat_and]
      exact Nat.lt_of_le_of_lt Nat.and_le_right (by decide)
    have h2 := congrArg BitVec.toNat h
    rw [BitVec.toNat_shiftLeft, Nat.shiftLeft_eq] at h2
    have h3 : 2 ^ k ≤ 2 ^ 28 := Nat.pow_le_pow_right (by decide) hk
    have h4 : (y &&& 15#32).toNat * 2 ^ k ≤ 15 * 2 ^ 28 := Nat.mul_le_mul (by omega) h3
    rw [Nat.mod_eq_of_lt (by omega)] at h2
    have h5 : 0 < 2 ^ k := Nat.two_pow_pos k
    apply BitVec.eq_of_toNat_eq
    rcases Nat.mul_eq_zero.mp h2 with h6 | h6
    · exact h6
    · omega
  · intro h; rw [h]; simp
theorem own_nib (w q M : Int32) (k : Nat) (hk : k ≤ 28) (hq : (q &&& 31).toBitVec % 32#32 = BitVec.ofNat 32 k) (hM : M.toBitVec = 15#32 <<< k) : (((w.toUInt32 >>> (q &&& 31).toUInt32).toInt32) &&& (15 : Int32) = 0) = (w &&& M = 0) := by
  rw [← Int32.toBitVec_inj, ← Int32.toBitVec_inj]
  show ((w.toBitVec >>> ((q &&& 31).toBitVec % 32#32)) &&& 15#32 = 0#32) = (w.toBitVec &&& M.toBitVec = 0#32)
  rw [hM, own_shl, own_shl0 _ _ hk, hq, BitVec.ushiftRight_eq', BitVec.toNat_ofNat, Nat.mod_eq_of_lt (by omega)]
theorem own_f1_eq (w : Int32) : own_f1 w = own_f2 w := by
  unfold own_f1 own_f2
  simp only [own_nib w 0 15 0 (by decide) (by decide) (by decide), own_nib w 4 240 4 (by decide) (by decide) (by decide), own_nib w 8 3840 8 (by decide) (by decide) (by decide), own_nib w 12 61440 12 (by decide) (by decide) (by decide), own_nib w 16 983040 16 (by decide) (by decide) (by decide), own_nib w 20 15728640 20 (by decide) (by decide) (by decide), own_nib w 24 251658240 24 (by decide) (by decide) (by decide), own_nib w 28 (-268435456) 28 (by decide) (by decide) (by decide)]
theorem own_bit (p a b e M : Int32) (hM : M &&& e = e) (ha : a &&& e = e) (hb : b &&& e = e) (he : ¬ e = 0) : ¬ (((p ||| a) &&& b) &&& M = 0) := by
  intro h0
  apply he
  have h1 : M.toBitVec &&& e.toBitVec = e.toBitVec := congrArg Int32.toBitVec hM
  have h2 : a.toBitVec &&& e.toBitVec = e.toBitVec := congrArg Int32.toBitVec ha
  have h3 : b.toBitVec &&& e.toBitVec = e.toBitVec := congrArg Int32.toBitVec hb
  have h4 : ((p.toBitVec ||| a.toBitVec) &&& b.toBitVec) &&& M.toBitVec = 0#32 := congrArg Int32.toBitVec h0
  apply Int32.toBitVec_inj.mp
  show e.toBitVec = 0#32
  apply BitVec.eq_of_getLsbD_eq
  intro i hi
  have g1 := congrArg (fun z => BitVec.getLsbD z i) h1
  have g2 := congrArg (fun z => BitVec.getLsbD z i) h2
  have g3 := congrArg (fun z => BitVec.getLsbD z i) h3
  have g4 := congrArg (fun z => BitVec.getLsbD z i) h4
  simp only [BitVec.getLsbD_and, BitVec.getLsbD_or, BitVec.getLsbD_zero] at g1 g2 g3 g4 ⊢
  revert g1 g2 g3 g4
  cases p.toBitVec.getLsbD i <;> cases a.toBitVec.getLsbD i <;> cases b.toBitVec.getLsbD i <;> cases e.toBitVec.getLsbD i <;> cases M.toBitVec.getLsbD i <;> simp
theorem own_out (x b M : Int32) (hb : b &&& M = 0) : (x &&& b) &&& M = 0 := by
  rw [Int32.and_assoc, hb, Int32.and_zero]
theorem own_full (p a e M : Int32) (hM : M &&& e = e) (ha : a &&& e = e) (he : ¬ e = 0) : ¬ ((p ||| a) &&& M = 0) := by
  have := own_bit p a (-1) e M hM ha (by rw [Int32.and_comm, Int32.and_neg_one]) he
  rwa [Int32.and_neg_one] at this
theorem own_b0 (p1 : Int32) : own_f1 ((p1 ||| ((286331153 : Int32) &&& (((1 : Int32) <<< ((0 : Int32) &&& 31)) - (1 : Int32)))) &&& (((15 : Int32) <<< ((0 : Int32) &&& 31)) ^^^ (-1 : Int32))) = (0 : Int32) := by
  rw [own_f1_eq]; unfold own_f2
  rw [if_pos (own_out _ (((15 : Int32) <<< ((0 : Int32) &&& 31)) ^^^ (-1 : Int32)) (15 : Int32) (by decide))]
theorem own_b1 (p1 : Int32) : own_f1 ((p1 ||| ((286331153 : Int32) &&& (((1 : Int32) <<< ((4 : Int32) &&& 31)) - (1 : Int32)))) &&& (((15 : Int32) <<< ((4 : Int32) &&& 31)) ^^^ (-1 : Int32))) = (1 : Int32) := by
  rw [own_f1_eq]; unfold own_f2
  rw [if_neg (own_bit p1 ((286331153 : Int32) &&& (((1 : Int32) <<< ((4 : Int32) &&& 31)) - (1 : Int32))) (((15 : Int32) <<< ((4 : Int32) &&& 31)) ^^^ (-1 : Int32)) (1 : Int32) (15 : Int32) (by decide) (by decide) (by decide) (by decide)), if_pos (own_out _ (((15 : Int32) <<< ((4 : Int32) &&& 31)) ^^^ (-1 : Int32)) (240 : Int32) (by decide))]
theorem own_b2 (p1 : Int32) : own_f1 ((p1 ||| ((286331153 : Int32) &&& (((1 : Int32) <<< ((8 : Int32) &&& 31)) - (1 : Int32)))) &&& (((15 : Int32) <<< ((8 : Int32) &&& 31)) ^^^ (-1 : Int32))) = (2 : Int32) := by
  rw [own_f1_eq]; unfold own_f2
  rw [if_neg (own_bit p1 ((286331153 : Int32) &&& (((1 : Int32) <<< ((8 : Int32) &&& 31)) - (1 : Int32))) (((15 : Int32) <<< ((8 : Int32) &&& 31)) ^^^ (-1 : Int32)) (1 : Int32) (15 : Int32) (by decide) (by decide) (by decide) (by decide)), if_neg (own_bit p1 ((286331153 : Int32) &&& (((1 : Int32) <<< ((8 : Int32) &&& 31)) - (1 : Int32))) (((15 : Int32) <<< ((8 : Int32) &&& 31)) ^^^ (-1 : Int32)) (16 : Int32) (240 : Int32) (by decide) (by decide) (by decide) (by decide)), if_pos (own_out _ (((15 : Int32) <<< ((8 : Int32) &&& 31)) ^^^ (-1 : Int32)) (3840 : Int32) (by decide))]
theorem own_b3 (p1 : Int32) : own_f1 ((p1 ||| ((286331153 : Int32) &&& (((1 : Int32) <<< ((12 : Int32) &&& 31)) - (1 : Int32)))) &&& (((15 : Int32) <<< ((12 : Int32) &&& 31)) ^^^ (-1 : Int32))) = (3 : Int32) := by
  rw [own_f1_eq]; unfold own_f2
  rw [if_neg (own_bit p1 ((286331153 : Int32) &&& (((1 : Int32) <<< ((12 : Int32) &&& 31)) - (1 : Int32))) (((15 : Int32) <<< ((12 : Int32) &&& 31)) ^^^ (-1 : Int32)) (1 : Int32) (15 : Int32) (by decide) (by decide) (by decide) (by decide)), if_neg (own_bit p1 ((286331153 : Int32) &&& (((1 : Int32) <<< ((12 : Int32) &&& 31)) - (1 : Int32))) (((15 : Int32) <<< ((12 : Int32) &&& 31)) ^^^ (-1 : Int32)) (16 : Int32) (240 : Int32) (by decide) (by decide) (by decide) (by decide)), if_neg (own_bit p1 ((286331153 : Int32) &&& (((1 : Int32) <<< ((12 : Int32) &&& 31)) - (1 : Int32))) (((15 : Int32) <<< ((12 : Int32) &&& 31)) ^^^ (-1 : Int32)) (256 : Int32) (3840 : Int32) (by decide) (by decide) (by decide) (by decide)), if_pos (own_out _ (((15 : Int32) <<< ((12 : Int32) &&& 31)) ^^^ (-1 : Int32)) (61440 : Int32) (by decide))]
theorem own_b4 (p1 : Int32) : own_f1 ((p1 ||| ((286331153 : Int32) &&& (((1 : Int32) <<< ((16 : Int32) &&& 31)) - (1 : Int32)))) &&& (((15 : Int32) <<< ((16 : Int32) &&& 31)) ^^^ (-1 : Int32))) = (4 : Int32) := by
  rw [own_f1_eq]; unfold own_f2
  rw [if_neg (own_bit p1 ((286331153 : Int32) &&& (((1 : Int32) <<< ((16 : Int32) &&& 31)) - (1 : Int32))) (((15 : Int32) <<< ((16 : Int32) &&& 31)) ^^^ (-1 : Int32)) (1 : Int32) (15 : Int32) (by decide) (by decide) (by decide) (by decide)), if_neg (own_bit p1 ((286331153 : Int32) &&& (((1 : Int32) <<< ((16 : Int32) &&& 31)) - (1 : Int32))) (((15 : Int32) <<< ((16 : Int32) &&& 31)) ^^^ (-1 : Int32)) (16 : Int32) (240 : Int32) (by decide) (by decide) (by decide) (by decide)), if_neg (own_bit p1 ((286331153 : Int32) &&& (((1 : Int32) <<< ((16 : Int32) &&& 31)) - (1 : Int32))) (((15 : Int32) <<< ((16 : Int32) &&& 31)) ^^^ (-1 : Int32)) (256 : Int32) (3840 : Int32) (by decide) (by decide) (by decide) (by decide)), if_neg (own_bit p1 ((286331153 : Int32) &&& (((1 : Int32) <<< ((16 : Int32) &&& 31)) - (1 : Int32))) (((15 : Int32) <<< ((16 : Int32) &&& 31)) ^^^ (-1 : Int32)) (4096 : Int32) (61440 : Int32) (by decide) (by decide) (by decide) (by decide)), if_pos (own_out _ (((15 : Int32) <<< ((16 : Int32) &&& 31)) ^^^ (-1 : Int32)) (983040 : Int32) (by decide))]
theorem own_b5 (p1 : Int32) : own_f1 ((p1 ||| ((286331153 : Int32) &&& (((1 : Int32) <<< ((20 : Int32) &&& 31)) - (1 : Int32)))) &&& (((15 : Int32) <<< ((20 : Int32) &&& 31)) ^^^ (-1 : Int32))) = (5 : Int32) := by
  rw [own_f1_eq]; unfold own_f2
  rw [if_neg (own_bit p1 ((286331153 : Int32) &&& (((1 : Int32) <<< ((20 : Int32) &&& 31)) - (1 : Int32))) (((15 : Int32) <<< ((20 : Int32) &&& 31)) ^^^ (-1 : Int32)) (1 : Int32) (15 : Int32) (by decide) (by decide) (by decide) (by decide)), if_neg (own_bit p1 ((286331153 : Int32) &&& (((1 : Int32) <<< ((20 : Int32) &&& 31)) - (1 : Int32))) (((15 : Int32) <<< ((20 : Int32) &&& 31)) ^^^ (-1 : Int32)) (16 : Int32) (240 : Int32) (by decide) (by decide) (by decide) (by decide)), if_neg (own_bit p1 ((286331153 : Int32) &&& (((1 : Int32) <<< ((20 : Int32) &&& 31)) - (1 : Int32))) (((15 : Int32) <<< ((20 : Int32) &&& 31)) ^^^ (-1 : Int32)) (256 : Int32) (3840 : Int32) (by decide) (by decide) (by decide) (by decide)), if_neg (own_bit p1 ((286331153 : Int32) &&& (((1 : Int32) <<< ((20 : Int32) &&& 31)) - (1 : Int32))) (((15 : Int32) <<< ((20 : Int32) &&& 31)) ^^^ (-1 : Int32)) (4096 : Int32) (61440 : Int32) (by decide) (by decide) (by decide) (by decide)), if_neg (own_bit p1 ((286331153 : Int32) &&& (((1 : Int32) <<< ((20 : Int32) &&& 31)) - (1 : Int32))) (((15 : Int32) <<< ((20 : Int32) &&& 31)) ^^^ (-1 : Int32)) (65536 : Int32) (983040 : Int32) (by decide) (by decide) (by decide) (by decide)), if_pos (own_out _ (((15 : Int32) <<< ((20 : Int32) &&& 31)) ^^^ (-1 : Int32)) (15728640 : Int32) (by decide))]
theorem own_b6 (p1 : Int32) : own_f1 ((p1 ||| ((286331153 : Int32) &&& (((1 : Int32) <<< ((24 : Int32) &&& 31)) - (1 : Int32)))) &&& (((15 : Int32) <<< ((24 : Int32) &&& 31)) ^^^ (-1 : Int32))) = (6 : Int32) := by
  rw [own_f1_eq]; unfold own_f2
  rw [if_neg (own_bit p1 ((286331153 : Int32) &&& (((1 : Int32) <<< ((24 : Int32) &&& 31)) - (1 : Int32))) (((15 : Int32) <<< ((24 : Int32) &&& 31)) ^^^ (-1 : Int32)) (1 : Int32) (15 : Int32) (by decide) (by decide) (by decide) (by decide)), if_neg (own_bit p1 ((286331153 : Int32) &&& (((1 : Int32) <<< ((24 : Int32) &&& 31)) - (1 : Int32))) (((15 : Int32) <<< ((24 : Int32) &&& 31)) ^^^ (-1 : Int32)) (16 : Int32) (240 : Int32) (by decide) (by decide) (by decide) (by decide)), if_neg (own_bit p1 ((286331153 : Int32) &&& (((1 : Int32) <<< ((24 : Int32) &&& 31)) - (1 : Int32))) (((15 : Int32) <<< ((24 : Int32) &&& 31)) ^^^ (-1 : Int32)) (256 : Int32) (3840 : Int32) (by decide) (by decide) (by decide) (by decide)), if_neg (own_bit p1 ((286331153 : Int32) &&& (((1 : Int32) <<< ((24 : Int32) &&& 31)) - (1 : Int32))) (((15 : Int32) <<< ((24 : Int32) &&& 31)) ^^^ (-1 : Int32)) (4096 : Int32) (61440 : Int32) (by decide) (by decide) (by decide) (by decide)), if_neg (own_bit p1 ((286331153 : Int32) &&& (((1 : Int32) <<< ((24 : Int32) &&& 31)) - (1 : Int32))) (((15 : Int32) <<< ((24 : Int32) &&& 31)) ^^^ (-1 : Int32)) (65536 : Int32) (983040 : Int32) (by decide) (by decide) (by decide) (by decide)), if_neg (own_bit p1 ((286331153 : Int32) &&& (((1 : Int32) <<< ((24 : Int32) &&& 31)) - (1 : Int32))) (((15 : Int32) <<< ((24 : Int32) &&& 31)) ^^^ (-1 : Int32)) (1048576 : Int32) (15728640 : Int32) (by decide) (by decide) (by decide) (by decide)), if_pos (own_out _ (((15 : Int32) <<< ((24 : Int32) &&& 31)) ^^^ (-1 : Int32)) (251658240 : Int32) (by decide))]
theorem own_b7 (p1 : Int32) : own_f1 ((p1 ||| ((286331153 : Int32) &&& (((1 : Int32) <<< ((28 : Int32) &&& 31)) - (1 : Int32)))) &&& (((15 : Int32) <<< ((28 : Int32) &&& 31)) ^^^ (-1 : Int32))) = (7 : Int32) := by
  rw [own_f1_eq]; unfold own_f2
  rw [if_neg (own_bit p1 ((286331153 : Int32) &&& (((1 : Int32) <<< ((28 : Int32) &&& 31)) - (1 : Int32))) (((15 : Int32) <<< ((28 : Int32) &&& 31)) ^^^ (-1 : Int32)) (1 : Int32) (15 : Int32) (by decide) (by decide) (by decide) (by decide)), if_neg (own_bit p1 ((286331153 : Int32) &&& (((1 : Int32) <<< ((28 : Int32) &&& 31)) - (1 : Int32))) (((15 : Int32) <<< ((28 : Int32) &&& 31)) ^^^ (-1 : Int32)) (16 : Int32) (240 : Int32) (by decide) (by decide) (by decide) (by decide)), if_neg (own_bit p1 ((286331153 : Int32) &&& (((1 : Int32) <<< ((28 : Int32) &&& 31)) - (1 : Int32))) (((15 : Int32) <<< ((28 : Int32) &&& 31)) ^^^ (-1 : Int32)) (256 : Int32) (3840 : Int32) (by decide) (by decide) (by decide) (by decide)), if_neg (own_bit p1 ((286331153 : Int32) &&& (((1 : Int32) <<< ((28 : Int32) &&& 31)) - (1 : Int32))) (((15 : Int32) <<< ((28 : Int32) &&& 31)) ^^^ (-1 : Int32)) (4096 : Int32) (61440 : Int32) (by decide) (by decide) (by decide) (by decide)), if_neg (own_bit p1 ((286331153 : Int32) &&& (((1 : Int32) <<< ((28 : Int32) &&& 31)) - (1 : Int32))) (((15 : Int32) <<< ((28 : Int32) &&& 31)) ^^^ (-1 : Int32)) (65536 : Int32) (983040 : Int32) (by decide) (by decide) (by decide) (by decide)), if_neg (own_bit p1 ((286331153 : Int32) &&& (((1 : Int32) <<< ((28 : Int32) &&& 31)) - (1 : Int32))) (((15 : Int32) <<< ((28 : Int32) &&& 31)) ^^^ (-1 : Int32)) (1048576 : Int32) (15728640 : Int32) (by decide) (by decide) (by decide) (by decide)), if_neg (own_bit p1 ((286331153 : Int32) &&& (((1 : Int32) <<< ((28 : Int32) &&& 31)) - (1 : Int32))) (((15 : Int32) <<< ((28 : Int32) &&& 31)) ^^^ (-1 : Int32)) (16777216 : Int32) (251658240 : Int32) (by decide) (by decide) (by decide) (by decide)), if_pos (own_out _ (((15 : Int32) <<< ((28 : Int32) &&& 31)) ^^^ (-1 : Int32)) (-268435456 : Int32) (by decide))]
theorem own_b8 (p1 : Int32) : own_f1 (p1 ||| (286331153 : Int32)) = (8 : Int32) := by
  rw [own_f1_eq]; unfold own_f2
  rw [if_neg (own_full p1 (286331153 : Int32) (1 : Int32) (15 : Int32) (by decide) (by decide) (by decide)), if_neg (own_full p1 (286331153 : Int32) (16 : Int32) (240 : Int32) (by decide) (by decide) (by decide)), if_neg (own_full p1 (286331153 : Int32) (256 : Int32) (3840 : Int32) (by decide) (by decide) (by decide)), if_neg (own_full p1 (286331153 : Int32) (4096 : Int32) (61440 : Int32) (by decide) (by decide) (by decide)), if_neg (own_full p1 (286331153 : Int32) (65536 : Int32) (983040 : Int32) (by decide) (by decide) (by decide)), if_neg (own_full p1 (286331153 : Int32) (1048576 : Int32) (15728640 : Int32) (by decide) (by decide) (by decide)), if_neg (own_full p1 (286331153 : Int32) (16777216 : Int32) (251658240 : Int32) (by decide) (by decide) (by decide)), if_neg (own_full p1 (286331153 : Int32) (268435456 : Int32) (-268435456 : Int32) (by decide) (by decide) (by decide))]
theorem own_law (p1 p2 : Int32) : own_f0 p1 p2 = 1 := by
  unfold own_f0
  simp only [own_f1_eq p1, own_b0, own_b1, own_b2, own_b3, own_b4, own_b5, own_b6, own_b7, own_b8, if_true, ite_self]
set_option maxRecDepth 65536 in
set_option maxHeartbeats 40000000 in
theorem comes_1 {Post : Tables → Env → Array Value → State → Outcome → State → Prop} (hpost : ∀ tb e args s v u, (limb_1_1.after args s (.returned v) u = true ∧ limb_1_2.after args s (.returned v) u = true ∧ True) → FrameEnd s (.returned v) u (Jvm.fieldLocs frame_1_writes args s ++ Jvm.arrayLocs frame_1_arrays args s ++ Jvm.staticLocs frame_1_statics s) 0 0 → Post tb e args s (.returned v) u) :
    ArmFor flags0 classFile x code maxLocals ret World_1 tables_1 room_1 Calls_1 rest_1 Pre_1 Post := by
  intro l hfl _ _ p e ha hc hk s m args below hf hA hF happ hP
  obtain ⟨hcalls, hrest, hpre⟩ := hP
  obtain ⟨-, -, -, hnamed, -, -, -, hat⟩ := (Spec.applies_iff hf).mp happ
  obtain ⟨hg, hn⟩ := and_e (Cond.before_iff.mp (show (Jvm.Cond.and given_1 narrow_1).before args s = true from hpre))
  obtain ⟨gg1, gg2⟩ := and_e hg
  obtain ⟨gg3, gg4⟩ := and_e gg2
  obtain ⟨w0, w1, rfl⟩ : ∃ w0 w1 : Value, args = #[w0, w1] := by
    have hs : args.size = 2 := by simpa [Cond.value, given_1] using gg1
    obtain ⟨L⟩ := args
    match L, hs with
    | [w0, w1], _ => exact ⟨w0, w1, rfl⟩
  have hw := fun d (hd : d ∈ tables_1) => atoms_spec (ws := Jvm.Cond.code x code maxLocals ret :: tables_1) hat d (List.mem_cons_of_mem _ hd)
  have hfit : Fit s := fun {y c} hc i hi => by
    obtain ⟨ha, rfl⟩ := Array.getElem?_eq_some_iff.mp hc
    have q := List.all_eq_true.mp ((Array.all_eq_true_iff_forall_mem.mp hF) _ (Array.getElem_mem ha)) i (List.mem_range.mpr hi)
    simpa [Array.getElem?_eq_getElem hi] using q
  obtain ⟨i0, ei0⟩ := is_v gg3
  obtain rfl : w0 = (.int i0) := Option.some.inj ei0
  obtain ⟨i1, ei1⟩ := is_v gg4
  obtain rfl : w1 = (.int i1) := Option.some.inj ei1
  obtain ⟨n, o, h1, h2, h3, _, L, rfl, ⟨rfl, N⟩, hq⟩ := own_rm0 l s _ hw tables_1 i0 i1 s.heap s.heap.size (Nat.le_refl _) p e ha hc hk s m _ below hf ((Spec.applies_iff_loose hf).mp happ).1 ⟨rfl, State.Warmed39.refl s, rfl⟩ trivial
  refine ⟨n, _, h1, h2, h3, hpost _ _ _ _ _ _ ⟨Cond.after_iff.mpr rfl, Cond.after_iff.mpr (eq_i res_at (Term.int_eval (1)) (congrArg Value.int (own_law i0 i1))), trivial⟩ ⟨hq.1, hq.2.1, (hq.2.2.sift fun y hy => Or.inr (N y hy)).mono (by decide) (by decide)⟩⟩
theorem main_1_1 : Claimed_1_1 := comes_1 fun _ _ _ _ _ _ h hF => ⟨h.1, hF⟩
theorem main_1_2 : Claimed_1_2 := comes_1 fun _ _ _ _ _ _ h hF => ⟨h.2.1, hF⟩
end Jvm.Pilot.@@N@@
namespace Jvm.Pilot.@@N@@
open Jvm Jvm.ClassFile Sem Op Lib Jvm.Free Jvm.Stand Jvm.Pilot.@@N@@.Jvm.D
/-! MADE BY PROGRAM (witnessworld.py) out of the Statement's table words and the real class files: 9 classes; the members and pool entries that the words name. The judged class is class 1, her method 2. -/
namespace start1
open Jvm.ClassFile
def u (s : String) : CpInfo := .utf8 (stringToUtf16 s)
/-- a pool by its gaps: so many unusable entries, then the entry; so many at the end -/
def gap : Nat → List CpInfo → List CpInfo
  | 0, r => r
  | n + 1, r => .unusable :: gap n r
def poolList (es : List (Nat × CpInfo)) (last : Nat) : List CpInfo := es.foldr (fun e r => gap e.1 (e.2 :: r)) (gap last [])
def pool (es : List (Nat × CpInfo)) (last : Nat) : Array CpInfo := ⟨poolList es last⟩
def fileOf (pool : Array CpInfo) (this : Nat) (attrs : Array Attribute := #[]) (ms : Array MethodInfo := #[]) (fl : Nat := 33) (sup : Nat := 0) (ifs : Array Nat := #[]) (fds : Array FieldInfo := #[]) : ClassFile where
  minorVersion := 0
  majorVersion := 65
  constantPool := pool
  accessFlags := fl
  thisClass := this
  superClass := sup
  interfaces := ifs
  fields := fds
  methods := ms
  attributes := attrs
def plain (name : String) (sup : Option ClassId) : Class where
  name := name
  kind := .ordinary
  loader := none
  accessFlags := 33
  super := sup
  interfaces := #[]
  cf := none
  fields := #[]
  methods := #[]
  instanceTypes := #[]
  staticTypes := #[]
  resolved := #[]
  callSites := []
  init := .initialized
  statics := none
  mirror := none

def pool0 : Array CpInfo := pool [(5, u "<init>"), (0, u "()V"), (1, .class_ 10), (1, u "java/lang/Object")] 113

def k0m0 : Method := { name := "<init>", desc := "()V", sig := { parameters := [], returnType := none }, accessFlags := 1, code := none }
/-- java/lang/Object -/
def k0 : Class := { plain "java/lang/Object" none with
  accessFlags := 33
  interfaces := #[]
  cf := some (fileOf pool0 8 #[] #[{ accessFlags := 1, nameIndex := 5, descriptorIndex := 6, attributes := #[] }] 33 0 #[] #[])
  fields := #[]
  methods := #[k0m0]
  instanceTypes := #[]
  staticTypes := #[]
  resolved := Array.replicate 124 none
  statics := none }

def pool1 : Array CpInfo := pool [(2, .class_ 4), (1, u "java/lang/Object"), (0, u "<init>"), (0, u "()V"), (0, .integer 61440), (0, .integer 983040), (0, .integer 15728640), (0, .integer 251658240), (0, .integer 4026531840), (0, .integer 2147483647), (0, .integer 286331153), (0, .methodref 15 16), (0, .class_ 17), (0, .nameAndType 18 19), (0, u "com/example/kerb/kerb/txn/SoleLocks"), (0, u "length"), (0, u "(I)I"), (0, .methodref 21 22), (0, .class_ 23), (0, .nameAndType 24 19), (0, u "com/example/kerb/kerb/txn/SoleLocksLengthPinLaw"), (0, u "ref"), (3, u "law"), (0, u "(II)Z")] 2

def k1m0 : Method := { name := "<init>", desc := "()V", sig := { parameters := [], returnType := none }, accessFlags := 2, code := none }
def k1c1 : Code := { maxStack := 2, maxLocals := 1, code := method_2_code, exceptionTable := #[], attributes := #[] }
def k1m1 : Method := { name := "ref", desc := "(I)I", sig := { parameters := [.int], returnType := some .int }, accessFlags := 10, code := some k1c1 }
def k1c2 : Code := { maxStack := 4, maxLocals := 8, code := code, exceptionTable := #[], attributes := #[] }
def k1m2 : Method := { name := "law", desc := "(II)Z", sig := { parameters := [.int, .int], returnType := some .boolean }, accessFlags := 9, code := some k1c2 }
/-- com/example/kerb/kerb/txn/SoleLocksLengthPinLaw -/
def k1 : Class := { plain "com/example/kerb/kerb/txn/SoleLocksLengthPinLaw" (some 0) with
  accessFlags := 49
  interfaces := #[]
  cf := some (fileOf pool1 21 #[] #[{ accessFlags := 2, nameIndex := 5, descriptorIndex := 6, attributes := #[] }, { accessFlags := 10, nameIndex := 24, descriptorIndex := 19, attributes := #[] }, { accessFlags := 9, nameIndex := 28, descriptorIndex := 29, attributes := #[] }] 49 2 #[] #[])
  fields := #[]
  methods := #[k1m0, k1m1, k1m2]
  instanceTypes := #[]
  staticTypes := #[]
  resolved := Array.replicate 32 none
  statics := none }

def pool2 : Array CpInfo := pool [(1, .class_ 2), (0, u "com/example/kerb/kerb/txn/SoleLocks"), (1, .class_ 6), (1, u "java/lang/Object"), (4, u "words"), (0, u "[I"), (4, u "keys"), (0, u "[Lcom/example/kerb/kerb/txn/KeySet;"), (2, u "transaction"), (0, u "Lcom/example/kerb/kerb/txn/Transaction;"), (2, u "index"), (0, u "Lcom/example/kerb/kerb/schema/IndexDefinition;"), (35, u "length"), (0, u "(I)I"), (17, u "KINDS"), (0, u "[Lcom/example/kerb/kerb/txn/LockKind;"), (47, u "MOST_LOCKS"), (0, u "I"), (2, u "LOCK_BITS"), (1, u "LOCK_MASK")] 35

def k2c0 : Code := { maxStack := 3, maxLocals := 2, code := prog_118_method_13_code, exceptionTable := #[], attributes := #[] }
def k2m0 : Method := { name := "length", desc := "(I)I", sig := { parameters := [.int], returnType := some .int }, accessFlags := 8, code := some k2c0 }
/-- com/example/kerb/kerb/txn/SoleLocks -/
def k2 : Class := { plain "com/example/kerb/kerb/txn/SoleLocks" (some 0) with
  accessFlags := 48
  interfaces := #[]
  cf := some (fileOf pool2 1 #[] #[{ accessFlags := 8, nameIndex := 62, descriptorIndex := 63, attributes := #[] }] 48 4 #[] #[{ accessFlags := 26, nameIndex := 130, descriptorIndex := 131, attributes := #[] }, { accessFlags := 26, nameIndex := 134, descriptorIndex := 131, attributes := #[] }, { accessFlags := 26, nameIndex := 136, descriptorIndex := 131, attributes := #[] }, { accessFlags := 26, nameIndex := 81, descriptorIndex := 82, attributes := #[] }, { accessFlags := 18, nameIndex := 21, descriptorIndex := 22, attributes := #[] }, { accessFlags := 18, nameIndex := 25, descriptorIndex := 26, attributes := #[] }, { accessFlags := 2, nameIndex := 11, descriptorIndex := 12, attributes := #[] }, { accessFlags := 2, nameIndex := 17, descriptorIndex := 18, attributes := #[] }])
  fields := #[{ name := "MOST_LOCKS", type := .int, accessFlags := 26, slot := 0, constantValue := 0 }, { name := "LOCK_BITS", type := .int, accessFlags := 26, slot := 1, constantValue := 0 }, { name := "LOCK_MASK", type := .int, accessFlags := 26, slot := 2, constantValue := 0 }, { name := "KINDS", type := (.array (.object "com/example/kerb/kerb/txn/LockKind")), accessFlags := 26, slot := 3, constantValue := 0 }, { name := "transaction", type := (.object "com/example/kerb/kerb/txn/Transaction"), accessFlags := 18, slot := 0, constantValue := 0 }, { name := "index", type := (.object "com/example/kerb/kerb/schema/IndexDefinition"), accessFlags := 18, slot := 1, constantValue := 0 }, { name := "words", type := (.array .int), accessFlags := 2, slot := 2, constantValue := 0 }, { name := "keys", type := (.array (.object "com/example/kerb/kerb/txn/KeySet")), accessFlags := 2, slot := 3, constantValue := 0 }]
  methods := #[k2m0]
  instanceTypes := #[(.object "com/example/kerb/kerb/txn/Transaction"), (.object "com/example/kerb/kerb/schema/IndexDefinition"), (.array .int), (.array (.object "com/example/kerb/kerb/txn/KeySet"))]
  staticTypes := #[.int, .int, .int, (.array (.object "com/example/kerb/kerb/txn/LockKind"))]
  resolved := Array.replicate 172 none
  statics := none }

def pool3 : Array CpInfo := pool [(1, u "java/lang/Cloneable"), (0, .class_ 1), (0, u "java/lang/Object"), (0, .class_ 3)] 3

/-- java/lang/Cloneable -/
def k3 : Class := { plain "java/lang/Cloneable" (some 0) with
  accessFlags := 1537
  interfaces := #[]
  cf := some (fileOf pool3 2 #[] #[] 1537 4 #[] #[])
  fields := #[]
  methods := #[]
  instanceTypes := #[]
  staticTypes := #[]
  resolved := Array.replicate 8 none
  statics := none }

def pool4 : Array CpInfo := pool [(1, u "java/io/Serializable"), (0, .class_ 1), (0, u "java/lang/Object"), (0, .class_ 3)] 3

/-- java/io/Serializable -/
def k4 : Class := { plain "java/io/Serializable" (some 0) with
  accessFlags := 1537
  interfaces := #[]
  cf := some (fileOf pool4 2 #[] #[] 1537 4 #[] #[])
  fields := #[]
  methods := #[]
  instanceTypes := #[]
  staticTypes := #[]
  resolved := Array.replicate 8 none
  statics := none }

/-- the primitive byte -/
def k5 : Class := { plain "byte" none with kind := .primitive 'B', accessFlags := 0x411 }
/-- [B -/
def k6 : Class := { plain "[B" (some 0) with kind := .array 5 .byte, interfaces := #[3, 4], accessFlags := 1041 }

/-- the primitive int -/
def k7 : Class := { plain "int" none with kind := .primitive 'I', accessFlags := 0x411 }
/-- [I -/
def k8 : Class := { plain "[I" (some 0) with kind := .array 7 .int, interfaces := #[3, 4], accessFlags := 1041 }

def heap : Heap := #[]
def classes : Array Class := #[k0, k1, k2, k3, k4, k5, k6, k7, k8]
def interned : List (Array UInt16 × Addr) := []
def slotsUsed : Nat := 0
def theMethod : MethodId := ⟨1, 2⟩
def args0 : Array Value := #[.int 17, .int 3]
def aboutOver (below : List Frame) : State where
  vm := { classes := classes, interned := interned.toArray }
  heap := heap
  slotsUsed := slotsUsed
  threads := #[{ frames := .invoking theMethod args0 :: below }]
def below0 : List Frame := [.native { method := ⟨0, 0⟩, args := #[] }]
def about1 : State := aboutOver below0
def p0 : Program := .bare "" "" ""
def e0 : Env := launch0.env 0 0 0
theorem w_frames : about1.frames = Frame.invoking theMethod args0 :: below0 := rfl
set_option maxRecDepth 65536 in
theorem w_args : argsFit about1.vm theMethod args0 = true := by decide +kernel
set_option maxRecDepth 65536 in
theorem w_heap : heapFits about1 = true := by decide +kernel
set_option maxRecDepth 65536 in
theorem w_runnable : about1.curStatus? = some .runnable := by decide +kernel
set_option maxRecDepth 65536 in
theorem w_alone : about1.alone = true := by decide +kernel
set_option maxRecDepth 65536 in
theorem w_named : about1.methodNamed? x = some theMethod := by decide +kernel
set_option maxRecDepth 65536 in
theorem w_hears : about1.hears theMethod below0 = true := by decide +kernel
set_option maxRecDepth 65536 in
theorem w_ripe : about1.ripe theMethod args0 below0 = true := by decide +kernel
theorem w_running : about1.status = .running := rfl
set_option maxRecDepth 65536 in
theorem w_room : about1.hasRoom e0.platform room_1 = true :=
  launch0.hasRoom_least _ room_1 (by decide +kernel) (by decide +kernel) (by decide +kernel) (by decide +kernel) (by decide +kernel) (by decide +kernel)
theorem allAtoms_all (ts : List Jvm.Cond) (a : Array Jvm.Value) (st : Jvm.State) : (allAtoms ts).before a st = ts.all (fun c => c.before a st) := by
  induction ts with
  | nil => rfl
  | cons c t ih =>
    show (Jvm.Cond.and c (allAtoms t)).before a st = _
    rw [Jvm.Cond.before_and, ih, List.all_cons]
def words1 : List Jvm.Cond := Jvm.Cond.code x code maxLocals ret :: tables_1
/-- a 'code' word, met by the world's own term for the bytes: nothing is compared byte by byte -/
theorem code_word {y : MethodName} {bytes : ByteArray} {mx : Nat} {rt : Option FieldType} {a : Array Value} {s : State} {m : MethodId} {meth : Method} {c : Code} (h1 : s.methodNamed? y = some m) (h2 : s.vm.method? m = some meth) (h3 : meth.code = some c) (h4 : c.code = bytes)
    (h5 : (c.maxLocals == mx && c.exceptionTable.isEmpty && decide (c.maxStack ≤ mostOperands) && decide (meth.sig.returnType = rt) && !meth.locks && decide (parseMethodDescriptor y.desc = some meth.sig)) = true) : (Jvm.Cond.code y bytes mx rt).before a s = true := by
  simp only [Bool.and_eq_true, beq_iff_eq, Bool.not_eq_true', decide_eq_true_eq] at h5
  obtain ⟨⟨⟨⟨⟨g1, g2⟩, g3⟩, g4⟩, g5⟩, g6⟩ := h5
  simp [Cond.before, Cond.holds, Cond.value, h1, h2, h3, h4, g1, g2, g3, g4, g5, g6]
def isCode : Jvm.Cond → Bool
  | .code _ _ _ _ => true
  | _ => false
theorem all_split {L : List Jvm.Cond} {P : Jvm.Cond → Bool} (h1 : L.all (fun c => isCode c || P c) = true) (h2 : ∀ c ∈ L.filter isCode, P c = true) : L.all P = true := by
  refine List.all_eq_true.mpr fun c hc => ?_
  have h := List.all_eq_true.mp h1 c hc
  rcases Bool.eq_false_or_eq_true (isCode c) with hi | hi
  · exact h2 c (List.mem_filter.mpr ⟨hc, hi⟩)
  · simpa [hi] using h
set_option maxRecDepth 65536 in
theorem w_c0 : (Jvm.Cond.code x code maxLocals ret).before args0 about1 = true := code_word (m := ⟨1, 2⟩) (meth := k1m2) (c := k1c2) (by decide +kernel) rfl rfl rfl (by decide +kernel)
set_option maxRecDepth 65536 in
theorem w_c1 : (Jvm.Cond.code ({ cls := "com/example/kerb/kerb/txn/SoleLocks", name := "length", desc := "(I)I" } : Jvm.MethodName) prog_118_method_13_code (2 : Nat) (Option.some Jvm.ClassFile.FieldType.int)).before args0 about1 = true := code_word (m := ⟨2, 0⟩) (meth := k2m0) (c := k2c0) (by decide +kernel) rfl rfl rfl (by decide +kernel)
set_option maxRecDepth 65536 in
theorem w_c2 : (Jvm.Cond.code ({ cls := "com/example/kerb/kerb/txn/SoleLocksLengthPinLaw", name := "ref", desc := "(I)I" } : Jvm.MethodName) method_2_code (1 : Nat) (Option.some Jvm.ClassFile.FieldType.int)).before args0 about1 = true := code_word (m := ⟨1, 1⟩) (meth := k1m1) (c := k1c1) (by decide +kernel) rfl rfl rfl (by decide +kernel)
def codes1 : List Jvm.Cond := [Jvm.Cond.code x code maxLocals ret, Jvm.Cond.code ({ cls := "com/example/kerb/kerb/txn/SoleLocks", name := "length", desc := "(I)I" } : Jvm.MethodName) prog_118_method_13_code (2 : Nat) (Option.some Jvm.ClassFile.FieldType.int), Jvm.Cond.code ({ cls := "com/example/kerb/kerb/txn/SoleLocksLengthPinLaw", name := "ref", desc := "(I)I" } : Jvm.MethodName) method_2_code (1 : Nat) (Option.some Jvm.ClassFile.FieldType.int)]
set_option maxRecDepth 65536 in
theorem codes_eq : words1.filter isCode = codes1 := rfl
theorem w_codes : ∀ c ∈ words1.filter isCode, c.before args0 about1 = true := by
  rw [codes_eq]
  intro c hc
  simp only [codes1, List.mem_cons, List.not_mem_nil, or_false] at hc
  rcases hc with rfl | rfl | rfl
  · exact w_c0
  · exact w_c1
  · exact w_c2
set_option maxRecDepth 65536 in
theorem w_t1 : words1.all (fun c => isCode c || c.before args0 about1) = true := by decide +kernel
theorem w_tables : (allAtoms (Jvm.Cond.code x code maxLocals ret :: tables_1)).before args0 about1 = true := by
  rw [allAtoms_all]
  show words1.all (fun c => c.before args0 about1) = true
  refine all_split ?_ w_codes
  rw [w_t1]
set_option maxRecDepth 65536 in
theorem w_case : (Jvm.Cond.and given_1 narrow_1).before args0 about1 = true := by decide +kernel
theorem w_applies : (headSpec (Jvm.Cond.code x code maxLocals ret :: tables_1) room_1).applies x e0.platform about1 = true :=
  (Spec.applies_iff w_frames).mpr ⟨w_running, w_runnable, w_alone, w_named, w_hears, w_ripe, w_room, w_tables⟩
theorem atStart : AtStart classFile x code maxLocals ret World_1 tables_1 room_1 Calls_1 rest_1 Pre_1 launch0 p0 e0 about1 theMethod args0 below0 :=
  ⟨lists_1, trivial, launch0.admits_env _ _ _, launch0.least_env, fairChoices_fair.cas, fairChoices_fair.clock, w_frames, w_args, w_heap, w_applies, trivial, trivial, w_case⟩
end start1
theorem witness_1 : WitnessClaimed_1 := ⟨start1.p0, start1.e0, start1.about1, start1.theMethod, start1.args0, start1.below0, start1.atStart⟩
end Jvm.Pilot.@@N@@
