import JvmDerived
import JvmDerived.Pilot.@@N@@Statement
import JvmDerived.Pilot.@@N@@Code
set_option linter.unusedVariables false
set_option linter.unusedSimpArgs false
namespace Jvm.RoadKit
open Sem ClassFile Op Lib Jvm.Stand Jvm.Free Jvm.LawKit
section New
variable {p : Program} {l : Launch} {e : Env} {R : Room} {s : State} {m : MethodId} {args : Array Value} {below : List Frame} {meth : Method} {c : Code} {T : State} {locs : List Loc} {cells slots : Nat}
theorem retI (X : Stand p l e R s m args below meth c T locs cells slots) (hx : p.tables.exec = Jvm.exec) {pc : Nat} {Ls : Array Slot} {z : Int32} {rest : List Value} (hret : meth.sig.returnType = some .int) (hd : decode c.code pc = .ok (.ireturn, 1)) {fs : List Frame}
    (hl : ∀ (f : JFrame) (acts : List Action), f.method = m → f.locked = none → f.entered = [] → (doReturn e (T.setTop f) acts (some (.int z))).1 = T.setFrames fs) : Steps p.tables e below (T.setTop (mkF m pc Ls (.int z :: rest))) (T.setFrames fs) := by
  have hm' : T.vm.method? m = some meth := X.method'
  have hn : narrow .int (.int z) = .int z := rfl
  show Steps p.tables e below (T.setTop { method := m, pc := pc, locals := Ls, stack := _ :: rest, locked := none }) _
  jvm_step X.here [X.here.top, hx, hd, hm', hret, hn]
  first | (intro acts; rw [hl _ acts rfl rfl rfl]) | rw [hl _ _ rfl rfl rfl]
  exact Steps.refl _
end New
end Jvm.RoadKit
namespace Jvm.Pilot.@@N@@
open Jvm Jvm.ClassFile Sem Op Lib Jvm.Free Jvm.Stand Jvm.LawKit Jvm.RoadKit Bundle Jvm.Pilot.@@N@@.Jvm.D
theorem own_pn0 : plainName "com/example/kerb/kerb/txn/LockKindCoversPinLaw" = true := by first | (simp [plainName, overriddenIn]; done) | decide +kernel
theorem own_pn32 : plainName "com/example/kerb/kerb/txn/LockKind" = true := by first | (simp [plainName, overriddenIn]; done) | decide +kernel
theorem own_pd93 : parseMethodDescriptor "(I)Lcom/example/kerb/kerb/txn/LockKind;" = some ⟨[.int], some (.object "com/example/kerb/kerb/txn/LockKind")⟩ := by decide +kernel
theorem own_pd94 : parseMethodDescriptor "(Lcom/example/kerb/kerb/txn/LockKind;)Z" = some ⟨[(.object "com/example/kerb/kerb/txn/LockKind")], some .boolean⟩ := by decide +kernel
theorem own_pd95 : parseMethodDescriptor "(II)Z" = some ⟨[.int, .int], some .boolean⟩ := by decide +kernel
theorem own_rng (p d : Int32) (D : Int) (hd : d.toInt = D) (h1 : 1 < D) : 0 ≤ ((p &&& (2147483647 : Int32)) - ((p &&& (2147483647 : Int32)) / d) * d).toInt ∧ ((p &&& (2147483647 : Int32)) - ((p &&& (2147483647 : Int32)) / d) * d).toInt < D := by
  have hx : 0 ≤ (p &&& (2147483647 : Int32)).toInt := by
    have := c_mask p 2147483647 31 (by decide) (by decide); omega
  generalize (p &&& (2147483647 : Int32)) = x at hx
  have r := rng32 x
  have hn : d ≠ -1 := fun q => by rw [q] at hd; have e : (-1 : Int32).toInt = -1 := by decide
                                  omega
  have e1 := (c_idiv x d D hd hn).1 hx
  have e2 : (x / d * d).toInt = x.toInt / D * D := by
    rw [Int32.toInt_mul, e1, hd]
    have m1 := Int.emod_nonneg x.toInt (show D ≠ 0 by omega)
    have m2 := Int.emod_lt_of_pos x.toInt (show 0 < D by omega)
    have m3 := Int.mul_ediv_add_emod x.toInt D
    have m4 : 0 ≤ x.toInt / D := Int.ediv_nonneg hx (by omega)
    have m5 : 0 ≤ x.toInt / D * D := Int.mul_nonneg m4 (by omega)
    rw [Int.mul_comm] at m3
    exact Int.bmod_eq_of_le (by omega) (by omega)
  have m1 := Int.emod_nonneg x.toInt (show D ≠ 0 by omega)
  have m2 := Int.emod_lt_of_pos x.toInt (show 0 < D by omega)
  have m3 := Int.mul_ediv_add_emod x.toInt D
  rw [Int.mul_comm] at m3
  have m4 : 0 ≤ x.toInt / D := Int.ediv_nonneg hx (by omega)
  have m5 : 0 ≤ x.toInt / D * D := Int.mul_nonneg m4 (by omega)
  have e3 : (x - x / d * d).toInt = x.toInt - x.toInt / D * D := by
    rw [Int32.toInt_sub, e2]
    exact Int.bmod_eq_of_le (by omega) (by omega)
  rw [e3]; omega
theorem own_ne {v k : Int32} {K : Int} (h : ¬ v = k) (hk : k.toInt = K) : v.toInt ≠ K := fun q => h (Int32.toInt_inj.mp (q.trans hk.symm))
theorem own_exh (p : Int32) (h0 : ¬ ((p &&& (2147483647 : Int32)) - ((p &&& (2147483647 : Int32)) / (7 : Int32)) * (7 : Int32)) = (0 : Int32)) (h1 : ¬ ((p &&& (2147483647 : Int32)) - ((p &&& (2147483647 : Int32)) / (7 : Int32)) * (7 : Int32)) = (1 : Int32)) (h2 : ¬ ((p &&& (2147483647 : Int32)) - ((p &&& (2147483647 : Int32)) / (7 : Int32)) * (7 : Int32)) = (2 : Int32)) (h3 : ¬ ((p &&& (2147483647 : Int32)) - ((p &&& (2147483647 : Int32)) / (7 : Int32)) * (7 : Int32)) = (3 : Int32)) (h4 : ¬ ((p &&& (2147483647 : Int32)) - ((p &&& (2147483647 : Int32)) / (7 : Int32)) * (7 : Int32)) = (4 : Int32)) (h5 : ¬ ((p &&& (2147483647 : Int32)) - ((p &&& (2147483647 : Int32)) / (7 : Int32)) * (7 : Int32)) = (5 : Int32)) : ((p &&& (2147483647 : Int32)) - ((p &&& (2147483647 : Int32)) / (7 : Int32)) * (7 : Int32)) = (6 : Int32) := by
  have r := own_rng p 7 7 (by decide) (by decide)
  have n0 := own_ne (K := 0) h0 (by decide)
  have n1 := own_ne (K := 1) h1 (by decide)
  have n2 := own_ne (K := 2) h2 (by decide)
  have n3 := own_ne (K := 3) h3 (by decide)
  have n4 := own_ne (K := 4) h4 (by decide)
  have n5 := own_ne (K := 5) h5 (by decide)
  refine Int32.toInt_inj.mp ?_
  rw [show (6 : Int32).toInt = 6 from by decide]
  omega
-- body 1
theorem own_d1_0 : decode method_2_code 0 = .ok (.iload_n 0, 1) := by decide +kernel
theorem own_d1_1 : decode method_2_code 1 = .ok (.ifCond .ne 7, 3) := by decide +kernel
theorem own_d1_4 : decode method_2_code 4 = .ok (.getstatic 7, 3) := by decide +kernel
theorem own_d1_7 : decode method_2_code 7 = .ok (.areturn, 1) := by decide +kernel
theorem own_d1_8 : decode method_2_code 8 = .ok (.iload_n 0, 1) := by decide +kernel
theorem own_d1_9 : decode method_2_code 9 = .ok (.iconst 1, 1) := by decide +kernel
theorem own_d1_10 : decode method_2_code 10 = .ok (.if_icmp .ne 7, 3) := by decide +kernel
theorem own_d1_13 : decode method_2_code 13 = .ok (.getstatic 13, 3) := by decide +kernel
theorem own_d1_16 : decode method_2_code 16 = .ok (.areturn, 1) := by decide +kernel
theorem own_d1_17 : decode method_2_code 17 = .ok (.iload_n 0, 1) := by decide +kernel
theorem own_d1_18 : decode method_2_code 18 = .ok (.iconst 2, 1) := by decide +kernel
theorem own_d1_19 : decode method_2_code 19 = .ok (.if_icmp .ne 7, 3) := by decide +kernel
theorem own_d1_22 : decode method_2_code 22 = .ok (.getstatic 16, 3) := by decide +kernel
theorem own_d1_25 : decode method_2_code 25 = .ok (.areturn, 1) := by decide +kernel
theorem own_d1_26 : decode method_2_code 26 = .ok (.iload_n 0, 1) := by decide +kernel
theorem own_d1_27 : decode method_2_code 27 = .ok (.iconst 3, 1) := by decide +kernel
theorem own_d1_28 : decode method_2_code 28 = .ok (.if_icmp .ne 7, 3) := by decide +kernel
theorem own_d1_31 : decode method_2_code 31 = .ok (.getstatic 19, 3) := by decide +kernel
theorem own_d1_34 : decode method_2_code 34 = .ok (.areturn, 1) := by decide +kernel
theorem own_d1_35 : decode method_2_code 35 = .ok (.iload_n 0, 1) := by decide +kernel
theorem own_d1_36 : decode method_2_code 36 = .ok (.iconst 4, 1) := by decide +kernel
theorem own_d1_37 : decode method_2_code 37 = .ok (.if_icmp .ne 7, 3) := by decide +kernel
theorem own_d1_40 : decode method_2_code 40 = .ok (.getstatic 22, 3) := by decide +kernel
theorem own_d1_43 : decode method_2_code 43 = .ok (.areturn, 1) := by decide +kernel
theorem own_d1_44 : decode method_2_code 44 = .ok (.iload_n 0, 1) := by decide +kernel
theorem own_d1_45 : decode method_2_code 45 = .ok (.iconst 5, 1) := by decide +kernel
theorem own_d1_46 : decode method_2_code 46 = .ok (.if_icmp .ne 7, 3) := by decide +kernel
theorem own_d1_49 : decode method_2_code 49 = .ok (.getstatic 25, 3) := by decide +kernel
theorem own_d1_52 : decode method_2_code 52 = .ok (.areturn, 1) := by decide +kernel
theorem own_d1_53 : decode method_2_code 53 = .ok (.getstatic 28, 3) := by decide +kernel
theorem own_d1_56 : decode method_2_code 56 = .ok (.areturn, 1) := by decide +kernel
theorem own_ef1 (m : MethodId) (x0 : Int32) : entryFrame m #[(.int x0)] 1 = mkF m 0 #[.val (.int x0)] [] := by first | (simp [entryFrame, mkF, argsToLocals, Value.category]; done) | rfl
def own_f1 (p1 : Int32) (w_INTENTION : Addr) (w_TABLE : Addr) (w_NEXT_KEY : Addr) (w_RECORD : Addr) (w_IMPLICIT : Addr) (w_GAP : Addr) (w_INSERT_INTENTION : Addr) : Addr := if p1 = (0 : Int32) then w_INTENTION
    else if p1 = (1 : Int32) then w_TABLE
      else if p1 = (2 : Int32) then w_NEXT_KEY
        else if p1 = (3 : Int32) then w_RECORD
          else if p1 = (4 : Int32) then w_IMPLICIT
            else if p1 = (5 : Int32) then w_GAP
              else w_INSERT_INTENTION
def own_Q1 (Z : State) (p1 : Int32) (w_INTENTION : Addr) (w_TABLE : Addr) (w_NEXT_KEY : Addr) (w_RECORD : Addr) (w_IMPLICIT : Addr) (w_GAP : Addr) (w_INSERT_INTENTION : Addr) (h0 : Heap) (n0 : Nat) (v : Option Value) (h : Heap) (L : List Loc) : Prop := v = some (.ref (own_f1 p1 w_INTENTION w_TABLE w_NEXT_KEY w_RECORD w_IMPLICIT w_GAP w_INSERT_INTENTION)) ∧ Fr n0 L ∧ h = h0
set_option maxRecDepth 65536 in
set_option maxHeartbeats 40000000 in
theorem own_rm1 (l : Launch) (Z : State) (a0 : Array Value) (hw : ∀ d ∈ tables_1, d.before a0 Z = true) (ws : List Jvm.Cond) (p1 : Int32) (w_INTENTION : Addr) (w_TABLE : Addr) (w_NEXT_KEY : Addr) (w_RECORD : Addr) (w_IMPLICIT : Addr) (w_GAP : Addr) (w_INSERT_INTENTION : Addr) (h0 : Heap) (n0 : Nat) (Z0 : n0 ≤ h0.size) (S_INTENTION : Sta Z h0 "com/example/kerb/kerb/txn/LockKind" "INTENTION" "Lcom/example/kerb/kerb/txn/LockKind;" (.ref w_INTENTION)) (S_TABLE : Sta Z h0 "com/example/kerb/kerb/txn/LockKind" "TABLE" "Lcom/example/kerb/kerb/txn/LockKind;" (.ref w_TABLE)) (S_NEXT_KEY : Sta Z h0 "com/example/kerb/kerb/txn/LockKind" "NEXT_KEY" "Lcom/example/kerb/kerb/txn/LockKind;" (.ref w_NEXT_KEY)) (S_RECORD : Sta Z h0 "com/example/kerb/kerb/txn/LockKind" "RECORD" "Lcom/example/kerb/kerb/txn/LockKind;" (.ref w_RECORD)) (S_IMPLICIT : Sta Z h0 "com/example/kerb/kerb/txn/LockKind" "IMPLICIT" "Lcom/example/kerb/kerb/txn/LockKind;" (.ref w_IMPLICIT)) (S_GAP : Sta Z h0 "com/example/kerb/kerb/txn/LockKind" "GAP" "Lcom/example/kerb/kerb/txn/LockKind;" (.ref w_GAP)) (S_INSERT_INTENTION : Sta Z h0 "com/example/kerb/kerb/txn/LockKind" "INSERT_INTENTION" "Lcom/example/kerb/kerb/txn/LockKind;" (.ref w_INSERT_INTENTION)) :
    MetFree l (⟨"com/example/kerb/kerb/txn/LockKindCoversPinLaw", "pick", "(I)Lcom/example/kerb/kerb/txn/LockKind;"⟩ : MethodName) (head1 (Jvm.Cond.code (⟨"com/example/kerb/kerb/txn/LockKindCoversPinLaw", "pick", "(I)Lcom/example/kerb/kerb/txn/LockKind;"⟩ : MethodName) method_2_code 1 (some (.object "com/example/kerb/kerb/txn/LockKind")) :: ws) ({ frames := 0, cells := 0, slots := 0, locals := 0 } : Room)) (fun a U => a = #[(.int p1)] ∧ Z.Warmed39 U.vm ∧ U.heap = h0) (fun _ _ _ _ _ => True) (fun _ U o U' => ∃ v L, o = .returned v ∧ own_Q1 Z p1 w_INTENTION w_TABLE w_NEXT_KEY w_RECORD w_IMPLICIT w_GAP w_INSERT_INTENTION h0 n0 v U'.heap L ∧ FrameEnd U o U' L ({ frames := 0, cells := 0, slots := 0, locals := 0 } : Room).cells ({ frames := 0, cells := 0, slots := 0, locals := 0 } : Room).slots) := by
  refine MetFree.of_bodySF (plainFor_of_name own_pn0) hisR ?_
  intro p e s m args below meth c s₁ Bd hml0 hP hK
  obtain ⟨rfl, hZ, hh⟩ := hP
  have hx := Bd.exec
  have hby := Bd.bytes
  have hml : c.maxLocals = 1 := hml0
  have hown : s.vm.findClass "com/example/kerb/kerb/txn/LockKindCoversPinLaw" = some m.cls := findClass_of_methodNamed Bd.named
  have hnm := (name_of_methodNamed Bd.named Bd.method).1
  have X0 : Stand p l e ({ frames := 0, cells := 0, slots := 0, locals := 0 } : Room) s m #[(.int p1)] below meth c s₁ [] 0 0 := Stand.of_body Bd
  have e0 : s₁.heap = h0 := by rw [← hh, Bd.state]; rfl
  have N0 := Fr.nil n0
  have pre0 : ∀ t, Steps p.tables e below (s₁.setTop (mkF m 0 #[.val (.int p1)] [])) t → Steps p.tables e below (s₁.setTop (entryFrame m #[(.int p1)] 1)) t := fun t k => castTop (own_ef1 m p1) k
  have k1 : ∀ t, Steps p.tables e below (s₁.setTop (mkF m 1 #[.val (.int p1)] [(.int p1)])) t → Steps p.tables e below (s₁.setTop (entryFrame m #[(.int p1)] 1)) t := by
    intro t kt
    refine pre0 t ?_
    show Steps p.tables e below (s₁.setTop (mkF m 0 #[.val (.int p1)] [])) _
    refine XS.iloadN X0.here hx rfl (hb hby own_d1_0) rfl ?_
    exact kt
  by_cases hc1 : p1 = (0 : Int32)
  ·
    obtain ⟨T2, X2, e2, st2⟩ := getS2 X0 hx hZ hown (host := "") (Or.inl (hw _ (List.mem_of_getElem? (i := 5) rfl))) Via.refl e0 S_INTENTION (g := (mkF m 4 #[.val (.int p1)] [])) rfl (hb hby own_d1_4)
    obtain ⟨fs, hr, hrun, hended, hW, hsame⟩ := X2.leave (v := some (.ref w_INTENTION)) (fun h => by rw [Bd.returns] at h; cases h)
    refine ⟨_, _, k1 _ ?_, hrun, hended, _, _, rfl, ?_, ⟨_, rfl⟩, hW, hsame.mono (by decide) (by decide)⟩
    · show Steps p.tables e below (s₁.setTop (mkF m 1 #[.val (.int p1)] [(.int p1)])) _
      refine XS.ifNo X0.here hx rfl (hb hby own_d1_1) rfl ((if0 _ _).trans (teq hc1).2) ?_
      show Steps p.tables e below (s₁.setTop (mkF m 4 #[.val (.int p1)] [])) _
      refine st2 _ ?_
      show Steps p.tables e below (T2.setTop (mkF m 7 #[.val (.int p1)] [(.ref w_INTENTION)])) _
      jvm_step X2.here [X2.here.top, hx, (hb hby own_d1_7), X2.method', Bd.returns, Value.isRef, FieldType.isReference]
      first | (intro acts; rw [hr _ acts rfl rfl rfl]) | rw [hr _ _ rfl rfl rfl]
      exact Steps.refl _
    · show own_Q1 Z p1 w_INTENTION w_TABLE w_NEXT_KEY w_RECORD w_IMPLICIT w_GAP w_INSERT_INTENTION h0 n0 _ T2.heap _
      rw [e2]
      exact ⟨(by rw [own_f1, if_pos hc1]), N0, rfl⟩
  ·
    have k3 : ∀ t, Steps p.tables e below (s₁.setTop (mkF m 10 #[.val (.int p1)] [(.int (1 : Int32)), (.int p1)])) t → Steps p.tables e below (s₁.setTop (entryFrame m #[(.int p1)] 1)) t := by
      intro t kt
      refine k1 t ?_
      show Steps p.tables e below (s₁.setTop (mkF m 1 #[.val (.int p1)] [(.int p1)])) _
      refine XS.ifYes X0.here hx rfl (pc0 := 1) (pc' := 8) rfl (hb hby own_d1_1) rfl ((if0 _ _).trans (feq hc1).2) (by decide) (by decide) ?_
      show Steps p.tables e below (s₁.setTop (mkF m 8 #[.val (.int p1)] [])) _
      refine XS.iloadN X0.here hx rfl (hb hby own_d1_8) rfl ?_
      show Steps p.tables e below (s₁.setTop (mkF m 9 #[.val (.int p1)] [(.int p1)])) _
      refine XS.iconst X0.here hx rfl (hb hby own_d1_9) ?_
      exact kt
    by_cases hc2 : p1 = (1 : Int32)
    ·
      obtain ⟨T4, X4, e4, st4⟩ := getS2 X0 hx hZ hown (host := "") (Or.inl (hw _ (List.mem_of_getElem? (i := 22) rfl))) Via.refl e0 S_TABLE (g := (mkF m 13 #[.val (.int p1)] [])) rfl (hb hby own_d1_13)
      obtain ⟨fs, hr, hrun, hended, hW, hsame⟩ := X4.leave (v := some (.ref w_TABLE)) (fun h => by rw [Bd.returns] at h; cases h)
      refine ⟨_, _, k3 _ ?_, hrun, hended, _, _, rfl, ?_, ⟨_, rfl⟩, hW, hsame.mono (by decide) (by decide)⟩
      · show Steps p.tables e below (s₁.setTop (mkF m 10 #[.val (.int p1)] [(.int (1 : Int32)), (.int p1)])) _
        refine XS.icmpNo X0.here hx rfl (hb hby own_d1_10) rfl (teq hc2).2 ?_
        show Steps p.tables e below (s₁.setTop (mkF m 13 #[.val (.int p1)] [])) _
        refine st4 _ ?_
        show Steps p.tables e below (T4.setTop (mkF m 16 #[.val (.int p1)] [(.ref w_TABLE)])) _
        jvm_step X4.here [X4.here.top, hx, (hb hby own_d1_16), X4.method', Bd.returns, Value.isRef, FieldType.isReference]
        first | (intro acts; rw [hr _ acts rfl rfl rfl]) | rw [hr _ _ rfl rfl rfl]
        exact Steps.refl _
      · show own_Q1 Z p1 w_INTENTION w_TABLE w_NEXT_KEY w_RECORD w_IMPLICIT w_GAP w_INSERT_INTENTION h0 n0 _ T4.heap _
        rw [e4]
        exact ⟨(by rw [own_f1, if_neg hc1, if_pos hc2]), N0, rfl⟩
    ·
      have k5 : ∀ t, Steps p.tables e below (s₁.setTop (mkF m 19 #[.val (.int p1)] [(.int (2 : Int32)), (.int p1)])) t → Steps p.tables e below (s₁.setTop (entryFrame m #[(.int p1)] 1)) t := by
        intro t kt
        refine k3 t ?_
        show Steps p.tables e below (s₁.setTop (mkF m 10 #[.val (.int p1)] [(.int (1 : Int32)), (.int p1)])) _
        refine XS.icmpYes X0.here hx rfl (pc0 := 10) (pc' := 17) rfl (hb hby own_d1_10) rfl (feq hc2).2 (by decide) (by decide) ?_
        show Steps p.tables e below (s₁.setTop (mkF m 17 #[.val (.int p1)] [])) _
        refine XS.iloadN X0.here hx rfl (hb hby own_d1_17) rfl ?_
        show Steps p.tables e below (s₁.setTop (mkF m 18 #[.val (.int p1)] [(.int p1)])) _
        refine XS.iconst X0.here hx rfl (hb hby own_d1_18) ?_
        exact kt
      by_cases hc3 : p1 = (2 : Int32)
      ·
        obtain ⟨T6, X6, e6, st6⟩ := getS2 X0 hx hZ hown (host := "") (Or.inl (hw _ (List.mem_of_getElem? (i := 29) rfl))) Via.refl e0 S_NEXT_KEY (g := (mkF m 22 #[.val (.int p1)] [])) rfl (hb hby own_d1_22)
        obtain ⟨fs, hr, hrun, hended, hW, hsame⟩ := X6.leave (v := some (.ref w_NEXT_KEY)) (fun h => by rw [Bd.returns] at h; cases h)
        refine ⟨_, _, k5 _ ?_, hrun, hended, _, _, rfl, ?_, ⟨_, rfl⟩, hW, hsame.mono (by decide) (by decide)⟩
        · show Steps p.tables e below (s₁.setTop (mkF m 19 #[.val (.int p1)] [(.int (2 : Int32)), (.int p1)])) _
          refine XS.icmpNo X0.here hx rfl (hb hby own_d1_19) rfl (teq hc3).2 ?_
          show Steps p.tables e below (s₁.setTop (mkF m 22 #[.val (.int p1)] [])) _
          refine st6 _ ?_
          show Steps p.tables e below (T6.setTop (mkF m 25 #[.val (.int p1)] [(.ref w_NEXT_KEY)])) _
          jvm_step X6.here [X6.here.top, hx, (hb hby own_d1_25), X6.method', Bd.returns, Value.isRef, FieldType.isReference]
          first | (intro acts; rw [hr _ acts rfl rfl rfl]) | rw [hr _ _ rfl rfl rfl]
          exact Steps.refl _
        · show own_Q1 Z p1 w_INTENTION w_TABLE w_NEXT_KEY w_RECORD w_IMPLICIT w_GAP w_INSERT_INTENTION h0 n0 _ T6.heap _
          rw [e6]
          exact ⟨(by rw [own_f1, if_neg hc1, if_neg hc2, if_pos hc3]), N0, rfl⟩
      ·
        have k7 : ∀ t, Steps p.tables e below (s₁.setTop (mkF m 28 #[.val (.int p1)] [(.int (3 : Int32)), (.int p1)])) t → Steps p.tables e below (s₁.setTop (entryFrame m #[(.int p1)] 1)) t := by
          intro t kt
          refine k5 t ?_
          show Steps p.tables e below (s₁.setTop (mkF m 19 #[.val (.int p1)] [(.int (2 : Int32)), (.int p1)])) _
          refine XS.icmpYes X0.here hx rfl (pc0 := 19) (pc' := 26) rfl (hb hby own_d1_19) rfl (feq hc3).2 (by decide) (by decide) ?_
          show Steps p.tables e below (s₁.setTop (mkF m 26 #[.val (.int p1)] [])) _
          refine XS.iloadN X0.here hx rfl (hb hby own_d1_26) rfl ?_
          show Steps p.tables e below (s₁.setTop (mkF m 27 #[.val (.int p1)] [(.int p1)])) _
          refine XS.iconst X0.here hx rfl (hb hby own_d1_27) ?_
          exact kt
        by_cases hc4 : p1 = (3 : Int32)
        ·
          obtain ⟨T8, X8, e8, st8⟩ := getS2 X0 hx hZ hown (host := "") (Or.inl (hw _ (List.mem_of_getElem? (i := 8) rfl))) Via.refl e0 S_RECORD (g := (mkF m 31 #[.val (.int p1)] [])) rfl (hb hby own_d1_31)
          obtain ⟨fs, hr, hrun, hended, hW, hsame⟩ := X8.leave (v := some (.ref w_RECORD)) (fun h => by rw [Bd.returns] at h; cases h)
          refine ⟨_, _, k7 _ ?_, hrun, hended, _, _, rfl, ?_, ⟨_, rfl⟩, hW, hsame.mono (by decide) (by decide)⟩
          · show Steps p.tables e below (s₁.setTop (mkF m 28 #[.val (.int p1)] [(.int (3 : Int32)), (.int p1)])) _
            refine XS.icmpNo X0.here hx rfl (hb hby own_d1_28) rfl (teq hc4).2 ?_
            show Steps p.tables e below (s₁.setTop (mkF m 31 #[.val (.int p1)] [])) _
            refine st8 _ ?_
            show Steps p.tables e below (T8.setTop (mkF m 34 #[.val (.int p1)] [(.ref w_RECORD)])) _
            jvm_step X8.here [X8.here.top, hx, (hb hby own_d1_34), X8.method', Bd.returns, Value.isRef, FieldType.isReference]
            first | (intro acts; rw [hr _ acts rfl rfl rfl]) | rw [hr _ _ rfl rfl rfl]
            exact Steps.refl _
          · show own_Q1 Z p1 w_INTENTION w_TABLE w_NEXT_KEY w_RECORD w_IMPLICIT w_GAP w_INSERT_INTENTION h0 n0 _ T8.heap _
            rw [e8]
            exact ⟨(by rw [own_f1, if_neg hc1, if_neg hc2, if_neg hc3, if_pos hc4]), N0, rfl⟩
        ·
          have k9 : ∀ t, Steps p.tables e below (s₁.setTop (mkF m 37 #[.val (.int p1)] [(.int (4 : Int32)), (.int p1)])) t → Steps p.tables e below (s₁.setTop (entryFrame m #[(.int p1)] 1)) t := by
            intro t kt
            refine k7 t ?_
            show Steps p.tables e below (s₁.setTop (mkF m 28 #[.val (.int p1)] [(.int (3 : Int32)), (.int p1)])) _
            refine XS.icmpYes X0.here hx rfl (pc0 := 28) (pc' := 35) rfl (hb hby own_d1_28) rfl (feq hc4).2 (by decide) (by decide) ?_
            show Steps p.tables e below (s₁.setTop (mkF m 35 #[.val (.int p1)] [])) _
            refine XS.iloadN X0.here hx rfl (hb hby own_d1_35) rfl ?_
            show Steps p.tables e below (s₁.setTop (mkF m 36 #[.val (.int p1)] [(.int p1)])) _
            refine XS.iconst X0.here hx rfl (hb hby own_d1_36) ?_
            exact kt
          by_cases hc5 : p1 = (4 : Int32)
          ·
            obtain ⟨T10, X10, e10, st10⟩ := getS2 X0 hx hZ hown (host := "") (Or.inl (hw _ (List.mem_of_getElem? (i := 30) rfl))) Via.refl e0 S_IMPLICIT (g := (mkF m 40 #[.val (.int p1)] [])) rfl (hb hby own_d1_40)
            obtain ⟨fs, hr, hrun, hended, hW, hsame⟩ := X10.leave (v := some (.ref w_IMPLICIT)) (fun h => by rw [Bd.returns] at h; cases h)
            refine ⟨_, _, k9 _ ?_, hrun, hended, _, _, rfl, ?_, ⟨_, rfl⟩, hW, hsame.mono (by decide) (by decide)⟩
            · show Steps p.tables e below (s₁.setTop (mkF m 37 #[.val (.int p1)] [(.int (4 : Int32)), (.int p1)])) _
              refine XS.icmpNo X0.here hx rfl (hb hby own_d1_37) rfl (teq hc5).2 ?_
              show Steps p.tables e below (s₁.setTop (mkF m 40 #[.val (.int p1)] [])) _
              refine st10 _ ?_
              show Steps p.tables e below (T10.setTop (mkF m 43 #[.val (.int p1)] [(.ref w_IMPLICIT)])) _
              jvm_step X10.here [X10.here.top, hx, (hb hby own_d1_43), X10.method', Bd.returns, Value.isRef, FieldType.isReference]
              first | (intro acts; rw [hr _ acts rfl rfl rfl]) | rw [hr _ _ rfl rfl rfl]
              exact Steps.refl _
            · show own_Q1 Z p1 w_INTENTION w_TABLE w_NEXT_KEY w_RECORD w_IMPLICIT w_GAP w_INSERT_INTENTION h0 n0 _ T10.heap _
              rw [e10]
              exact ⟨(by rw [own_f1, if_neg hc1, if_neg hc2, if_neg hc3, if_neg hc4, if_pos hc5]), N0, rfl⟩
          ·
            have k11 : ∀ t, Steps p.tables e below (s₁.setTop (mkF m 46 #[.val (.int p1)] [(.int (5 : Int32)), (.int p1)])) t → Steps p.tables e below (s₁.setTop (entryFrame m #[(.int p1)] 1)) t := by
              intro t kt
              refine k9 t ?_
              show Steps p.tables e below (s₁.setTop (mkF m 37 #[.val (.int p1)] [(.int (4 : Int32)), (.int p1)])) _
              refine XS.icmpYes X0.here hx rfl (pc0 := 37) (pc' := 44) rfl (hb hby own_d1_37) rfl (feq hc5).2 (by decide) (by decide) ?_
              show Steps p.tables e below (s₁.setTop (mkF m 44 #[.val (.int p1)] [])) _
              refine XS.iloadN X0.here hx rfl (hb hby own_d1_44) rfl ?_
              show Steps p.tables e below (s₁.setTop (mkF m 45 #[.val (.int p1)] [(.int p1)])) _
              refine XS.iconst X0.here hx rfl (hb hby own_d1_45) ?_
              exact kt
            by_cases hc6 : p1 = (5 : Int32)
            ·
              obtain ⟨T12, X12, e12, st12⟩ := getS2 X0 hx hZ hown (host := "") (Or.inl (hw _ (List.mem_of_getElem? (i := 24) rfl))) Via.refl e0 S_GAP (g := (mkF m 49 #[.val (.int p1)] [])) rfl (hb hby own_d1_49)
              obtain ⟨fs, hr, hrun, hended, hW, hsame⟩ := X12.leave (v := some (.ref w_GAP)) (fun h => by rw [Bd.returns] at h; cases h)
              refine ⟨_, _, k11 _ ?_, hrun, hended, _, _, rfl, ?_, ⟨_, rfl⟩, hW, hsame.mono (by decide) (by decide)⟩
              · show Steps p.tables e below (s₁.setTop (mkF m 46 #[.val (.int p1)] [(.int (5 : Int32)), (.int p1)])) _
                refine XS.icmpNo X0.here hx rfl (hb hby own_d1_46) rfl (teq hc6).2 ?_
                show Steps p.tables e below (s₁.setTop (mkF m 49 #[.val (.int p1)] [])) _
                refine st12 _ ?_
                show Steps p.tables e below (T12.setTop (mkF m 52 #[.val (.int p1)] [(.ref w_GAP)])) _
                jvm_step X12.here [X12.here.top, hx, (hb hby own_d1_52), X12.method', Bd.returns, Value.isRef, FieldType.isReference]
                first | (intro acts; rw [hr _ acts rfl rfl rfl]) | rw [hr _ _ rfl rfl rfl]
                exact Steps.refl _
              · show own_Q1 Z p1 w_INTENTION w_TABLE w_NEXT_KEY w_RECORD w_IMPLICIT w_GAP w_INSERT_INTENTION h0 n0 _ T12.heap _
                rw [e12]
                exact ⟨(by rw [own_f1, if_neg hc1, if_neg hc2, if_neg hc3, if_neg hc4, if_neg hc5, if_pos hc6]), N0, rfl⟩
            ·
              obtain ⟨T13, X13, e13, st13⟩ := getS2 X0 hx hZ hown (host := "") (Or.inl (hw _ (List.mem_of_getElem? (i := 31) rfl))) Via.refl e0 S_INSERT_INTENTION (g := (mkF m 53 #[.val (.int p1)] [])) rfl (hb hby own_d1_53)
              obtain ⟨fs, hr, hrun, hended, hW, hsame⟩ := X13.leave (v := some (.ref w_INSERT_INTENTION)) (fun h => by rw [Bd.returns] at h; cases h)
              refine ⟨_, _, k11 _ ?_, hrun, hended, _, _, rfl, ?_, ⟨_, rfl⟩, hW, hsame.mono (by decide) (by decide)⟩
              · show Steps p.tables e below (s₁.setTop (mkF m 46 #[.val (.int p1)] [(.int (5 : Int32)), (.int p1)])) _
                refine XS.icmpYes X0.here hx rfl (pc0 := 46) (pc' := 53) rfl (hb hby own_d1_46) rfl (feq hc6).2 (by decide) (by decide) ?_
                show Steps p.tables e below (s₁.setTop (mkF m 53 #[.val (.int p1)] [])) _
                refine st13 _ ?_
                show Steps p.tables e below (T13.setTop (mkF m 56 #[.val (.int p1)] [(.ref w_INSERT_INTENTION)])) _
                jvm_step X13.here [X13.here.top, hx, (hb hby own_d1_56), X13.method', Bd.returns, Value.isRef, FieldType.isReference]
                first | (intro acts; rw [hr _ acts rfl rfl rfl]) | rw [hr _ _ rfl rfl rfl]
                exact Steps.refl _
              · show own_Q1 Z p1 w_INTENTION w_TABLE w_NEXT_KEY w_RECORD w_IMPLICIT w_GAP w_INSERT_INTENTION h0 n0 _ T13.heap _
                rw [e13]
                exact ⟨(by rw [own_f1, if_neg hc1, if_neg hc2, if_neg hc3, if_neg hc4, if_neg hc5, if_neg hc6]), N0, rfl⟩
-- body 2
theorem own_d2_0 : decode prog_102_method_6_code 0 = .ok (.aload_n 0, 1) := by decide +kernel
theorem own_d2_1 : decode prog_102_method_6_code 1 = .ok (.aload_n 1, 1) := by decide +kernel
theorem own_d2_2 : decode prog_102_method_6_code 2 = .ok (.if_acmp .eq 38, 3) := by decide +kernel
theorem own_d2_5 : decode prog_102_method_6_code 5 = .ok (.aload_n 0, 1) := by decide +kernel
theorem own_d2_6 : decode prog_102_method_6_code 6 = .ok (.getfield 44, 3) := by decide +kernel
theorem own_d2_9 : decode prog_102_method_6_code 9 = .ok (.ifCond .eq 17, 3) := by decide +kernel
theorem own_d2_12 : decode prog_102_method_6_code 12 = .ok (.aload_n 1, 1) := by decide +kernel
theorem own_d2_13 : decode prog_102_method_6_code 13 = .ok (.getstatic 13, 3) := by decide +kernel
theorem own_d2_16 : decode prog_102_method_6_code 16 = .ok (.if_acmp .eq 24, 3) := by decide +kernel
theorem own_d2_19 : decode prog_102_method_6_code 19 = .ok (.aload_n 1, 1) := by decide +kernel
theorem own_d2_20 : decode prog_102_method_6_code 20 = .ok (.getstatic 16, 3) := by decide +kernel
theorem own_d2_23 : decode prog_102_method_6_code 23 = .ok (.if_acmp .eq 17, 3) := by decide +kernel
theorem own_d2_26 : decode prog_102_method_6_code 26 = .ok (.aload_n 0, 1) := by decide +kernel
theorem own_d2_27 : decode prog_102_method_6_code 27 = .ok (.getstatic 10, 3) := by decide +kernel
theorem own_d2_30 : decode prog_102_method_6_code 30 = .ok (.if_acmp .ne 14, 3) := by decide +kernel
theorem own_d2_33 : decode prog_102_method_6_code 33 = .ok (.aload_n 1, 1) := by decide +kernel
theorem own_d2_34 : decode prog_102_method_6_code 34 = .ok (.getstatic 19, 3) := by decide +kernel
theorem own_d2_37 : decode prog_102_method_6_code 37 = .ok (.if_acmp .ne 7, 3) := by decide +kernel
theorem own_d2_40 : decode prog_102_method_6_code 40 = .ok (.iconst 1, 1) := by decide +kernel
theorem own_d2_41 : decode prog_102_method_6_code 41 = .ok (.goto 4, 3) := by decide +kernel
theorem own_d2_44 : decode prog_102_method_6_code 44 = .ok (.iconst 0, 1) := by decide +kernel
theorem own_d2_45 : decode prog_102_method_6_code 45 = .ok (.ireturn, 1) := by decide +kernel
theorem own_ef2 (m : MethodId) (x0 : Addr) (x1 : Addr) : entryFrame m #[(.ref x0), (.ref x1)] 2 = mkF m 0 #[.val (.ref x0), .val (.ref x1)] [] := by first | (simp [entryFrame, mkF, argsToLocals, Value.category]; done) | rfl
def own_f2 (a1 : Addr) (a2 : Addr) (w_coversRecord_a1 : Int32) (w_NEXT_KEY : Addr) (w_GAP : Addr) (w_RECORD : Addr) (w_IMPLICIT : Addr) : Int32 := if a1 = a2 then (1 : Int32)
    else if w_coversRecord_a1 = (0 : Int32) then (if a1 = w_NEXT_KEY then (if a2 = w_GAP then (1 : Int32)
          else (0 : Int32))
        else (0 : Int32))
      else if a2 = w_RECORD then (1 : Int32)
        else if a2 = w_IMPLICIT then (1 : Int32)
          else if a1 = w_NEXT_KEY then (if a2 = w_GAP then (1 : Int32)
              else (0 : Int32))
            else (0 : Int32)
def own_Q2 (Z : State) (a1 : Addr) (a2 : Addr) (w_coversRecord_a1 : Int32) (w_NEXT_KEY : Addr) (w_GAP : Addr) (w_RECORD : Addr) (w_IMPLICIT : Addr) (h0 : Heap) (n0 : Nat) (v : Option Value) (h : Heap) (L : List Loc) : Prop := v = some (.int (own_f2 a1 a2 w_coversRecord_a1 w_NEXT_KEY w_GAP w_RECORD w_IMPLICIT)) ∧ Fr n0 L ∧ h = h0
set_option maxRecDepth 65536 in
set_option maxHeartbeats 40000000 in
theorem own_rm2 (l : Launch) (Z : State) (a0 : Array Value) (hw : ∀ d ∈ tables_1, d.before a0 Z = true) (ws : List Jvm.Cond) (a1 : Addr) (a2 : Addr) (w_coversRecord_a1 : Int32) (w_NEXT_KEY : Addr) (w_GAP : Addr) (w_RECORD : Addr) (w_IMPLICIT : Addr) (h0 : Heap) (n0 : Nat) (Z0 : n0 ≤ h0.size) (F_coversRecord_a1 : Fld Z h0 a1 "com/example/kerb/kerb/txn/LockKind" "coversRecord" "Z" (.int w_coversRecord_a1)) (S_NEXT_KEY : Sta Z h0 "com/example/kerb/kerb/txn/LockKind" "NEXT_KEY" "Lcom/example/kerb/kerb/txn/LockKind;" (.ref w_NEXT_KEY)) (S_GAP : Sta Z h0 "com/example/kerb/kerb/txn/LockKind" "GAP" "Lcom/example/kerb/kerb/txn/LockKind;" (.ref w_GAP)) (S_RECORD : Sta Z h0 "com/example/kerb/kerb/txn/LockKind" "RECORD" "Lcom/example/kerb/kerb/txn/LockKind;" (.ref w_RECORD)) (S_IMPLICIT : Sta Z h0 "com/example/kerb/kerb/txn/LockKind" "IMPLICIT" "Lcom/example/kerb/kerb/txn/LockKind;" (.ref w_IMPLICIT)) :
    MetFree l (⟨"com/example/kerb/kerb/txn/LockKind", "covers", "(Lcom/example/kerb/kerb/txn/LockKind;)Z"⟩ : MethodName) (head1 (Jvm.Cond.code (⟨"com/example/kerb/kerb/txn/LockKind", "covers", "(Lcom/example/kerb/kerb/txn/LockKind;)Z"⟩ : MethodName) prog_102_method_6_code 2 (some .boolean) :: ws) ({ frames := 0, cells := 0, slots := 0, locals := 0 } : Room)) (fun a U => a = #[(.ref a1), (.ref a2)] ∧ Z.Warmed39 U.vm ∧ U.heap = h0) (fun _ _ _ _ _ => True) (fun _ U o U' => ∃ v L, o = .returned v ∧ own_Q2 Z a1 a2 w_coversRecord_a1 w_NEXT_KEY w_GAP w_RECORD w_IMPLICIT h0 n0 v U'.heap L ∧ FrameEnd U o U' L ({ frames := 0, cells := 0, slots := 0, locals := 0 } : Room).cells ({ frames := 0, cells := 0, slots := 0, locals := 0 } : Room).slots) := by
  refine MetFree.of_bodySF (plainFor_of_name own_pn32) hisR ?_
  intro p e s m args below meth c s₁ Bd hml0 hP hK
  obtain ⟨rfl, hZ, hh⟩ := hP
  have hx := Bd.exec
  have hby := Bd.bytes
  have hml : c.maxLocals = 2 := hml0
  have hown : s.vm.findClass "com/example/kerb/kerb/txn/LockKind" = some m.cls := findClass_of_methodNamed Bd.named
  have hnm := (name_of_methodNamed Bd.named Bd.method).1
  have X0 : Stand p l e ({ frames := 0, cells := 0, slots := 0, locals := 0 } : Room) s m #[(.ref a1), (.ref a2)] below meth c s₁ [] 0 0 := Stand.of_body Bd
  have e0 : s₁.heap = h0 := by rw [← hh, Bd.state]; rfl
  have N0 := Fr.nil n0
  have pre0 : ∀ t, Steps p.tables e below (s₁.setTop (mkF m 0 #[.val (.ref a1), .val (.ref a2)] [])) t → Steps p.tables e below (s₁.setTop (entryFrame m #[(.ref a1), (.ref a2)] 2)) t := fun t k => castTop (own_ef2 m a1 a2) k
  have k1 : ∀ t, Steps p.tables e below (s₁.setTop (mkF m 2 #[.val (.ref a1), .val (.ref a2)] [(.ref a2), (.ref a1)])) t → Steps p.tables e below (s₁.setTop (entryFrame m #[(.ref a1), (.ref a2)] 2)) t := by
    intro t kt
    refine pre0 t ?_
    show Steps p.tables e below (s₁.setTop (mkF m 0 #[.val (.ref a1), .val (.ref a2)] [])) _
    refine XS.aloadN X0.here hx rfl (hb hby own_d2_0) rfl rfl ?_
    show Steps p.tables e below (s₁.setTop (mkF m 1 #[.val (.ref a1), .val (.ref a2)] [(.ref a1)])) _
    refine XS.aloadN X0.here hx rfl (hb hby own_d2_1) rfl rfl ?_
    exact kt
  by_cases hc1 : a1 = a2
  ·
    obtain ⟨fs, hr, hrun, hended, hW, hsame⟩ := X0.leave (v := some (.int (1 : Int32))) (fun h => by rw [Bd.returns] at h; cases h)
    refine ⟨_, _, k1 _ ?_, hrun, hended, _, _, rfl, ?_, ⟨_, rfl⟩, hW, hsame.mono (by decide) (by decide)⟩
    · show Steps p.tables e below (s₁.setTop (mkF m 2 #[.val (.ref a1), .val (.ref a2)] [(.ref a2), (.ref a1)])) _
      refine Jvm.RoadKit.acmp (g := (mkF m 2 #[.val (.ref a1), .val (.ref a2)] [(.ref a2), (.ref a1)])) X0 hx rfl rfl rfl (pc0 := 2) (pc' := 40) (same := true) rfl (hb hby own_d2_2) rfl (decide_eq_true (congrArg Value.ref hc1)) (by decide) (by decide) ?_
      show Steps p.tables e below (s₁.setTop (mkF m 40 #[.val (.ref a1), .val (.ref a2)] [])) _
      refine XS.iconst X0.here hx rfl (hb hby own_d2_40) ?_
      show Steps p.tables e below (s₁.setTop (mkF m 41 #[.val (.ref a1), .val (.ref a2)] [(.int (1 : Int32))])) _
      refine XS.goto X0.here hx rfl (pc0 := 41) (pc' := 45) rfl (hb hby own_d2_41) (by decide) (by decide) ?_
      show Steps p.tables e below (s₁.setTop (mkF m 45 #[.val (.ref a1), .val (.ref a2)] [(.int (1 : Int32))])) _
      exact retN X0 hx (t := .boolean) Bd.returns (by simp) (hb hby own_d2_45) hr
    · show own_Q2 Z a1 a2 w_coversRecord_a1 w_NEXT_KEY w_GAP w_RECORD w_IMPLICIT h0 n0 _ s₁.heap _
      rw [e0]
      exact ⟨(by rw [own_f2, if_pos hc1]), N0, rfl⟩
  ·
    obtain ⟨T2, X2, e2, st2⟩ := getF X0 hx hZ hown (host := "") (Or.inl (hw _ (List.mem_of_getElem? (i := 15) rfl))) Via.refl e0 F_coversRecord_a1 (g := (mkF m 6 #[.val (.ref a1), .val (.ref a2)] [(.ref a1)])) rfl rfl (hb hby own_d2_6)
    have k3 : ∀ t, Steps p.tables e below (T2.setTop (mkF m 9 #[.val (.ref a1), .val (.ref a2)] [(.int w_coversRecord_a1)])) t → Steps p.tables e below (s₁.setTop (entryFrame m #[(.ref a1), (.ref a2)] 2)) t := by
      intro t kt
      refine k1 t ?_
      show Steps p.tables e below (s₁.setTop (mkF m 2 #[.val (.ref a1), .val (.ref a2)] [(.ref a2), (.ref a1)])) _
      refine Jvm.RoadKit.acmp (g := (mkF m 2 #[.val (.ref a1), .val (.ref a2)] [(.ref a2), (.ref a1)])) X0 hx rfl rfl rfl (pc0 := 2) (pc' := 5) (same := false) rfl (hb hby own_d2_2) rfl (decide_eq_false fun q => hc1 (Value.ref.inj q)) (by decide) (by decide) ?_
      show Steps p.tables e below (s₁.setTop (mkF m 5 #[.val (.ref a1), .val (.ref a2)] [])) _
      refine XS.aloadN X0.here hx rfl (hb hby own_d2_5) rfl rfl ?_
      show Steps p.tables e below (s₁.setTop (mkF m 6 #[.val (.ref a1), .val (.ref a2)] [(.ref a1)])) _
      refine st2 _ ?_
      exact kt
    by_cases hc2 : w_coversRecord_a1 = (0 : Int32)
    ·
      obtain ⟨T4, X4, e4, st4⟩ := getS2 X2 hx hZ hown (host := "") (Or.inl (hw _ (List.mem_of_getElem? (i := 17) rfl))) Via.refl e2 S_NEXT_KEY (g := (mkF m 27 #[.val (.ref a1), .val (.ref a2)] [(.ref a1)])) rfl (hb hby own_d2_27)
      have k5 : ∀ t, Steps p.tables e below (T4.setTop (mkF m 30 #[.val (.ref a1), .val (.ref a2)] [(.ref w_NEXT_KEY), (.ref a1)])) t → Steps p.tables e below (s₁.setTop (entryFrame m #[(.ref a1), (.ref a2)] 2)) t := by
        intro t kt
        refine k3 t ?_
        show Steps p.tables e below (T2.setTop (mkF m 9 #[.val (.ref a1), .val (.ref a2)] [(.int w_coversRecord_a1)])) _
        refine XS.ifYes X2.here hx rfl (pc0 := 9) (pc' := 26) rfl (hb hby own_d2_9) rfl ((if0 _ _).trans (teq hc2).1) (by decide) (by decide) ?_
        show Steps p.tables e below (T2.setTop (mkF m 26 #[.val (.ref a1), .val (.ref a2)] [])) _
        refine XS.aloadN X2.here hx rfl (hb hby own_d2_26) rfl rfl ?_
        show Steps p.tables e below (T2.setTop (mkF m 27 #[.val (.ref a1), .val (.ref a2)] [(.ref a1)])) _
        refine st4 _ ?_
        exact kt
      by_cases hc3 : a1 = w_NEXT_KEY
      ·
        obtain ⟨T6, X6, e6, st6⟩ := getS2 X4 hx hZ hown (host := "") (Or.inl (hw _ (List.mem_of_getElem? (i := 33) rfl))) Via.refl e4 S_GAP (g := (mkF m 34 #[.val (.ref a1), .val (.ref a2)] [(.ref a2)])) rfl (hb hby own_d2_34)
        have k7 : ∀ t, Steps p.tables e below (T6.setTop (mkF m 37 #[.val (.ref a1), .val (.ref a2)] [(.ref w_GAP), (.ref a2)])) t → Steps p.tables e below (s₁.setTop (entryFrame m #[(.ref a1), (.ref a2)] 2)) t := by
          intro t kt
          refine k5 t ?_
          show Steps p.tables e below (T4.setTop (mkF m 30 #[.val (.ref a1), .val (.ref a2)] [(.ref w_NEXT_KEY), (.ref a1)])) _
          refine Jvm.RoadKit.acmp (g := (mkF m 30 #[.val (.ref a1), .val (.ref a2)] [(.ref w_NEXT_KEY), (.ref a1)])) X4 hx rfl rfl rfl (pc0 := 30) (pc' := 33) (same := true) rfl (hb hby own_d2_30) rfl (decide_eq_true (congrArg Value.ref hc3)) (by decide) (by decide) ?_
          show Steps p.tables e below (T4.setTop (mkF m 33 #[.val (.ref a1), .val (.ref a2)] [])) _
          refine XS.aloadN X4.here hx rfl (hb hby own_d2_33) rfl rfl ?_
          show Steps p.tables e below (T4.setTop (mkF m 34 #[.val (.ref a1), .val (.ref a2)] [(.ref a2)])) _
          refine st6 _ ?_
          exact kt
        by_cases hc4 : a2 = w_GAP
        ·
          obtain ⟨fs, hr, hrun, hended, hW, hsame⟩ := X6.leave (v := some (.int (1 : Int32))) (fun h => by rw [Bd.returns] at h; cases h)
          refine ⟨_, _, k7 _ ?_, hrun, hended, _, _, rfl, ?_, ⟨_, rfl⟩, hW, hsame.mono (by decide) (by decide)⟩
          · show Steps p.tables e below (T6.setTop (mkF m 37 #[.val (.ref a1), .val (.ref a2)] [(.ref w_GAP), (.ref a2)])) _
            refine Jvm.RoadKit.acmp (g := (mkF m 37 #[.val (.ref a1), .val (.ref a2)] [(.ref w_GAP), (.ref a2)])) X6 hx rfl rfl rfl (pc0 := 37) (pc' := 40) (same := true) rfl (hb hby own_d2_37) rfl (decide_eq_true (congrArg Value.ref hc4)) (by decide) (by decide) ?_
            show Steps p.tables e below (T6.setTop (mkF m 40 #[.val (.ref a1), .val (.ref a2)] [])) _
            refine XS.iconst X6.here hx rfl (hb hby own_d2_40) ?_
            show Steps p.tables e below (T6.setTop (mkF m 41 #[.val (.ref a1), .val (.ref a2)] [(.int (1 : Int32))])) _
            refine XS.goto X6.here hx rfl (pc0 := 41) (pc' := 45) rfl (hb hby own_d2_41) (by decide) (by decide) ?_
            show Steps p.tables e below (T6.setTop (mkF m 45 #[.val (.ref a1), .val (.ref a2)] [(.int (1 : Int32))])) _
            exact retN X6 hx (t := .boolean) Bd.returns (by simp) (hb hby own_d2_45) hr
          · show own_Q2 Z a1 a2 w_coversRecord_a1 w_NEXT_KEY w_GAP w_RECORD w_IMPLICIT h0 n0 _ T6.heap _
            rw [e6]
            exact ⟨(by rw [own_f2, if_neg hc1, if_pos hc2, if_pos hc3, if_pos hc4]), N0, rfl⟩
        ·
          obtain ⟨fs, hr, hrun, hended, hW, hsame⟩ := X6.leave (v := some (.int (0 : Int32))) (fun h => by rw [Bd.returns] at h; cases h)
          refine ⟨_, _, k7 _ ?_, hrun, hended, _, _, rfl, ?_, ⟨_, rfl⟩, hW, hsame.mono (by decide) (by decide)⟩
          · show Steps p.tables e below (T6.setTop (mkF m 37 #[.val (.ref a1), .val (.ref a2)] [(.ref w_GAP), (.ref a2)])) _
            refine Jvm.RoadKit.acmp (g := (mkF m 37 #[.val (.ref a1), .val (.ref a2)] [(.ref w_GAP), (.ref a2)])) X6 hx rfl rfl rfl (pc0 := 37) (pc' := 44) (same := false) rfl (hb hby own_d2_37) rfl (decide_eq_false fun q => hc4 (Value.ref.inj q)) (by decide) (by decide) ?_
            show Steps p.tables e below (T6.setTop (mkF m 44 #[.val (.ref a1), .val (.ref a2)] [])) _
            refine XS.iconst X6.here hx rfl (hb hby own_d2_44) ?_
            show Steps p.tables e below (T6.setTop (mkF m 45 #[.val (.ref a1), .val (.ref a2)] [(.int (0 : Int32))])) _
            exact retN X6 hx (t := .boolean) Bd.returns (by simp) (hb hby own_d2_45) hr
          · show own_Q2 Z a1 a2 w_coversRecord_a1 w_NEXT_KEY w_GAP w_RECORD w_IMPLICIT h0 n0 _ T6.heap _
            rw [e6]
            exact ⟨(by rw [own_f2, if_neg hc1, if_pos hc2, if_pos hc3, if_neg hc4]), N0, rfl⟩
      ·
        obtain ⟨fs, hr, hrun, hended, hW, hsame⟩ := X4.leave (v := some (.int (0 : Int32))) (fun h => by rw [Bd.returns] at h; cases h)
        refine ⟨_, _, k5 _ ?_, hrun, hended, _, _, rfl, ?_, ⟨_, rfl⟩, hW, hsame.mono (by decide) (by decide)⟩
        · show Steps p.tables e below (T4.setTop (mkF m 30 #[.val (.ref a1), .val (.ref a2)] [(.ref w_NEXT_KEY), (.ref a1)])) _
          refine Jvm.RoadKit.acmp (g := (mkF m 30 #[.val (.ref a1), .val (.ref a2)] [(.ref w_NEXT_KEY), (.ref a1)])) X4 hx rfl rfl rfl (pc0 := 30) (pc' := 44) (same := false) rfl (hb hby own_d2_30) rfl (decide_eq_false fun q => hc3 (Value.ref.inj q)) (by decide) (by decide) ?_
          show Steps p.tables e below (T4.setTop (mkF m 44 #[.val (.ref a1), .val (.ref a2)] [])) _
          refine XS.iconst X4.here hx rfl (hb hby own_d2_44) ?_
          show Steps p.tables e below (T4.setTop (mkF m 45 #[.val (.ref a1), .val (.ref a2)] [(.int (0 : Int32))])) _
          exact retN X4 hx (t := .boolean) Bd.returns (by simp) (hb hby own_d2_45) hr
        · show own_Q2 Z a1 a2 w_coversRecord_a1 w_NEXT_KEY w_GAP w_RECORD w_IMPLICIT h0 n0 _ T4.heap _
          rw [e4]
          exact ⟨(by rw [own_f2, if_neg hc1, if_pos hc2, if_neg hc3]), N0, rfl⟩
    ·
      obtain ⟨T8, X8, e8, st8⟩ := getS2 X2 hx hZ hown (host := "") (Or.inl (hw _ (List.mem_of_getElem? (i := 26) rfl))) Via.refl e2 S_RECORD (g := (mkF m 13 #[.val (.ref a1), .val (.ref a2)] [(.ref a2)])) rfl (hb hby own_d2_13)
      have k9 : ∀ t, Steps p.tables e below (T8.setTop (mkF m 16 #[.val (.ref a1), .val (.ref a2)] [(.ref w_RECORD), (.ref a2)])) t → Steps p.tables e below (s₁.setTop (entryFrame m #[(.ref a1), (.ref a2)] 2)) t := by
        intro t kt
        refine k3 t ?_
        show Steps p.tables e below (T2.setTop (mkF m 9 #[.val (.ref a1), .val (.ref a2)] [(.int w_coversRecord_a1)])) _
        refine XS.ifNo X2.here hx rfl (hb hby own_d2_9) rfl ((if0 _ _).trans (feq hc2).1) ?_
        show Steps p.tables e below (T2.setTop (mkF m 12 #[.val (.ref a1), .val (.ref a2)] [])) _
        refine XS.aloadN X2.here hx rfl (hb hby own_d2_12) rfl rfl ?_
        show Steps p.tables e below (T2.setTop (mkF m 13 #[.val (.ref a1), .val (.ref a2)] [(.ref a2)])) _
        refine st8 _ ?_
        exact kt
      by_cases hc5 : a2 = w_RECORD
      ·
        obtain ⟨fs, hr, hrun, hended, hW, hsame⟩ := X8.leave (v := some (.int (1 : Int32))) (fun h => by rw [Bd.returns] at h; cases h)
        refine ⟨_, _, k9 _ ?_, hrun, hended, _, _, rfl, ?_, ⟨_, rfl⟩, hW, hsame.mono (by decide) (by decide)⟩
        · show Steps p.tables e below (T8.setTop (mkF m 16 #[.val (.ref a1), .val (.ref a2)] [(.ref w_RECORD), (.ref a2)])) _
          refine Jvm.RoadKit.acmp (g := (mkF m 16 #[.val (.ref a1), .val (.ref a2)] [(.ref w_RECORD), (.ref a2)])) X8 hx rfl rfl rfl (pc0 := 16) (pc' := 40) (same := true) rfl (hb hby own_d2_16) rfl (decide_eq_true (congrArg Value.ref hc5)) (by decide) (by decide) ?_
          show Steps p.tables e below (T8.setTop (mkF m 40 #[.val (.ref a1), .val (.ref a2)] [])) _
          refine XS.iconst X8.here hx rfl (hb hby own_d2_40) ?_
          show Steps p.tables e below (T8.setTop (mkF m 41 #[.val (.ref a1), .val (.ref a2)] [(.int (1 : Int32))])) _
          refine XS.goto X8.here hx rfl (pc0 := 41) (pc' := 45) rfl (hb hby own_d2_41) (by decide) (by decide) ?_
          show Steps p.tables e below (T8.setTop (mkF m 45 #[.val (.ref a1), .val (.ref a2)] [(.int (1 : Int32))])) _
          exact retN X8 hx (t := .boolean) Bd.returns (by simp) (hb hby own_d2_45) hr
        · show own_Q2 Z a1 a2 w_coversRecord_a1 w_NEXT_KEY w_GAP w_RECORD w_IMPLICIT h0 n0 _ T8.heap _
          rw [e8]
          exact ⟨(by rw [own_f2, if_neg hc1, if_neg hc2, if_pos hc5]), N0, rfl⟩
      ·
        obtain ⟨T10, X10, e10, st10⟩ := getS2 X8 hx hZ hown (host := "") (Or.inl (hw _ (List.mem_of_getElem? (i := 27) rfl))) Via.refl e8 S_IMPLICIT (g := (mkF m 20 #[.val (.ref a1), .val (.ref a2)] [(.ref a2)])) rfl (hb hby own_d2_20)
        have k11 : ∀ t, Steps p.tables e below (T10.setTop (mkF m 23 #[.val (.ref a1), .val (.ref a2)] [(.ref w_IMPLICIT), (.ref a2)])) t → Steps p.tables e below (s₁.setTop (entryFrame m #[(.ref a1), (.ref a2)] 2)) t := by
          intro t kt
          refine k9 t ?_
          show Steps p.tables e below (T8.setTop (mkF m 16 #[.val (.ref a1), .val (.ref a2)] [(.ref w_RECORD), (.ref a2)])) _
          refine Jvm.RoadKit.acmp (g := (mkF m 16 #[.val (.ref a1), .val (.ref a2)] [(.ref w_RECORD), (.ref a2)])) X8 hx rfl rfl rfl (pc0 := 16) (pc' := 19) (same := false) rfl (hb hby own_d2_16) rfl (decide_eq_false fun q => hc5 (Value.ref.inj q)) (by decide) (by decide) ?_
          show Steps p.tables e below (T8.setTop (mkF m 19 #[.val (.ref a1), .val (.ref a2)] [])) _
          refine XS.aloadN X8.here hx rfl (hb hby own_d2_19) rfl rfl ?_
          show Steps p.tables e below (T8.setTop (mkF m 20 #[.val (.ref a1), .val (.ref a2)] [(.ref a2)])) _
          refine st10 _ ?_
          exact kt
        by_cases hc6 : a2 = w_IMPLICIT
        ·
          obtain ⟨fs, hr, hrun, hended, hW, hsame⟩ := X10.leave (v := some (.int (1 : Int32))) (fun h => by rw [Bd.returns] at h; cases h)
          refine ⟨_, _, k11 _ ?_, hrun, hended, _, _, rfl, ?_, ⟨_, rfl⟩, hW, hsame.mono (by decide) (by decide)⟩
          · show Steps p.tables e below (T10.setTop (mkF m 23 #[.val (.ref a1), .val (.ref a2)] [(.ref w_IMPLICIT), (.ref a2)])) _
            refine Jvm.RoadKit.acmp (g := (mkF m 23 #[.val (.ref a1), .val (.ref a2)] [(.ref w_IMPLICIT), (.ref a2)])) X10 hx rfl rfl rfl (pc0 := 23) (pc' := 40) (same := true) rfl (hb hby own_d2_23) rfl (decide_eq_true (congrArg Value.ref hc6)) (by decide) (by decide) ?_
            show Steps p.tables e below (T10.setTop (mkF m 40 #[.val (.ref a1), .val (.ref a2)] [])) _
            refine XS.iconst X10.here hx rfl (hb hby own_d2_40) ?_
            show Steps p.tables e below (T10.setTop (mkF m 41 #[.val (.ref a1), .val (.ref a2)] [(.int (1 : Int32))])) _
            refine XS.goto X10.here hx rfl (pc0 := 41) (pc' := 45) rfl (hb hby own_d2_41) (by decide) (by decide) ?_
            show Steps p.tables e below (T10.setTop (mkF m 45 #[.val (.ref a1), .val (.ref a2)] [(.int (1 : Int32))])) _
            exact retN X10 hx (t := .boolean) Bd.returns (by simp) (hb hby own_d2_45) hr
          · show own_Q2 Z a1 a2 w_coversRecord_a1 w_NEXT_KEY w_GAP w_RECORD w_IMPLICIT h0 n0 _ T10.heap _
            rw [e10]
            exact ⟨(by rw [own_f2, if_neg hc1, if_neg hc2, if_neg hc5, if_pos hc6]), N0, rfl⟩
        ·
          obtain ⟨T12, X12, e12, st12⟩ := getS2 X10 hx hZ hown (host := "") (Or.inl (hw _ (List.mem_of_getElem? (i := 17) rfl))) Via.refl e10 S_NEXT_KEY (g := (mkF m 27 #[.val (.ref a1), .val (.ref a2)] [(.ref a1)])) rfl (hb hby own_d2_27)
          have k13 : ∀ t, Steps p.tables e below (T12.setTop (mkF m 30 #[.val (.ref a1), .val (.ref a2)] [(.ref w_NEXT_KEY), (.ref a1)])) t → Steps p.tables e below (s₁.setTop (entryFrame m #[(.ref a1), (.ref a2)] 2)) t := by
            intro t kt
            refine k11 t ?_
            show Steps p.tables e below (T10.setTop (mkF m 23 #[.val (.ref a1), .val (.ref a2)] [(.ref w_IMPLICIT), (.ref a2)])) _
            refine Jvm.RoadKit.acmp (g := (mkF m 23 #[.val (.ref a1), .val (.ref a2)] [(.ref w_IMPLICIT), (.ref a2)])) X10 hx rfl rfl rfl (pc0 := 23) (pc' := 26) (same := false) rfl (hb hby own_d2_23) rfl (decide_eq_false fun q => hc6 (Value.ref.inj q)) (by decide) (by decide) ?_
            show Steps p.tables e below (T10.setTop (mkF m 26 #[.val (.ref a1), .val (.ref a2)] [])) _
            refine XS.aloadN X10.here hx rfl (hb hby own_d2_26) rfl rfl ?_
            show Steps p.tables e below (T10.setTop (mkF m 27 #[.val (.ref a1), .val (.ref a2)] [(.ref a1)])) _
            refine st12 _ ?_
            exact kt
          by_cases hc7 : a1 = w_NEXT_KEY
          ·
            obtain ⟨T14, X14, e14, st14⟩ := getS2 X12 hx hZ hown (host := "") (Or.inl (hw _ (List.mem_of_getElem? (i := 33) rfl))) Via.refl e12 S_GAP (g := (mkF m 34 #[.val (.ref a1), .val (.ref a2)] [(.ref a2)])) rfl (hb hby own_d2_34)
            have k15 : ∀ t, Steps p.tables e below (T14.setTop (mkF m 37 #[.val (.ref a1), .val (.ref a2)] [(.ref w_GAP), (.ref a2)])) t → Steps p.tables e below (s₁.setTop (entryFrame m #[(.ref a1), (.ref a2)] 2)) t := by
              intro t kt
              refine k13 t ?_
              show Steps p.tables e below (T12.setTop (mkF m 30 #[.val (.ref a1), .val (.ref a2)] [(.ref w_NEXT_KEY), (.ref a1)])) _
              refine Jvm.RoadKit.acmp (g := (mkF m 30 #[.val (.ref a1), .val (.ref a2)] [(.ref w_NEXT_KEY), (.ref a1)])) X12 hx rfl rfl rfl (pc0 := 30) (pc' := 33) (same := true) rfl (hb hby own_d2_30) rfl (decide_eq_true (congrArg Value.ref hc7)) (by decide) (by decide) ?_
              show Steps p.tables e below (T12.setTop (mkF m 33 #[.val (.ref a1), .val (.ref a2)] [])) _
              refine XS.aloadN X12.here hx rfl (hb hby own_d2_33) rfl rfl ?_
              show Steps p.tables e below (T12.setTop (mkF m 34 #[.val (.ref a1), .val (.ref a2)] [(.ref a2)])) _
              refine st14 _ ?_
              exact kt
            by_cases hc8 : a2 = w_GAP
            ·
              obtain ⟨fs, hr, hrun, hended, hW, hsame⟩ := X14.leave (v := some (.int (1 : Int32))) (fun h => by rw [Bd.returns] at h; cases h)
              refine ⟨_, _, k15 _ ?_, hrun, hended, _, _, rfl, ?_, ⟨_, rfl⟩, hW, hsame.mono (by decide) (by decide)⟩
              · show Steps p.tables e below (T14.setTop (mkF m 37 #[.val (.ref a1), .val (.ref a2)] [(.ref w_GAP), (.ref a2)])) _
                refine Jvm.RoadKit.acmp (g := (mkF m 37 #[.val (.ref a1), .val (.ref a2)] [(.ref w_GAP), (.ref a2)])) X14 hx rfl rfl rfl (pc0 := 37) (pc' := 40) (same := true) rfl (hb hby own_d2_37) rfl (decide_eq_true (congrArg Value.ref hc8)) (by decide) (by decide) ?_
                show Steps p.tables e below (T14.setTop (mkF m 40 #[.val (.ref a1), .val (.ref a2)] [])) _
                refine XS.iconst X14.here hx rfl (hb hby own_d2_40) ?_
                show Steps p.tables e below (T14.setTop (mkF m 41 #[.val (.ref a1), .val (.ref a2)] [(.int (1 : Int32))])) _
                refine XS.goto X14.here hx rfl (pc0 := 41) (pc' := 45) rfl (hb hby own_d2_41) (by decide) (by decide) ?_
                show Steps p.tables e below (T14.setTop (mkF m 45 #[.val (.ref a1), .val (.ref a2)] [(.int (1 : Int32))])) _
                exact retN X14 hx (t := .boolean) Bd.returns (by simp) (hb hby own_d2_45) hr
              · show own_Q2 Z a1 a2 w_coversRecord_a1 w_NEXT_KEY w_GAP w_RECORD w_IMPLICIT h0 n0 _ T14.heap _
                rw [e14]
                exact ⟨(by rw [own_f2, if_neg hc1, if_neg hc2, if_neg hc5, if_neg hc6, if_pos hc7, if_pos hc8]), N0, rfl⟩
            ·
              obtain ⟨fs, hr, hrun, hended, hW, hsame⟩ := X14.leave (v := some (.int (0 : Int32))) (fun h => by rw [Bd.returns] at h; cases h)
              refine ⟨_, _, k15 _ ?_, hrun, hended, _, _, rfl, ?_, ⟨_, rfl⟩, hW, hsame.mono (by decide) (by decide)⟩
              · show Steps p.tables e below (T14.setTop (mkF m 37 #[.val (.ref a1), .val (.ref a2)] [(.ref w_GAP), (.ref a2)])) _
                refine Jvm.RoadKit.acmp (g := (mkF m 37 #[.val (.ref a1), .val (.ref a2)] [(.ref w_GAP), (.ref a2)])) X14 hx rfl rfl rfl (pc0 := 37) (pc' := 44) (same := false) rfl (hb hby own_d2_37) rfl (decide_eq_false fun q => hc8 (Value.ref.inj q)) (by decide) (by decide) ?_
                show Steps p.tables e below (T14.setTop (mkF m 44 #[.val (.ref a1), .val (.ref a2)] [])) _
                refine XS.iconst X14.here hx rfl (hb hby own_d2_44) ?_
                show Steps p.tables e below (T14.setTop (mkF m 45 #[.val (.ref a1), .val (.ref a2)] [(.int (0 : Int32))])) _
                exact retN X14 hx (t := .boolean) Bd.returns (by simp) (hb hby own_d2_45) hr
              · show own_Q2 Z a1 a2 w_coversRecord_a1 w_NEXT_KEY w_GAP w_RECORD w_IMPLICIT h0 n0 _ T14.heap _
                rw [e14]
                exact ⟨(by rw [own_f2, if_neg hc1, if_neg hc2, if_neg hc5, if_neg hc6, if_pos hc7, if_neg hc8]), N0, rfl⟩
          ·
            obtain ⟨fs, hr, hrun, hended, hW, hsame⟩ := X12.leave (v := some (.int (0 : Int32))) (fun h => by rw [Bd.returns] at h; cases h)
            refine ⟨_, _, k13 _ ?_, hrun, hended, _, _, rfl, ?_, ⟨_, rfl⟩, hW, hsame.mono (by decide) (by decide)⟩
            · show Steps p.tables e below (T12.setTop (mkF m 30 #[.val (.ref a1), .val (.ref a2)] [(.ref w_NEXT_KEY), (.ref a1)])) _
              refine Jvm.RoadKit.acmp (g := (mkF m 30 #[.val (.ref a1), .val (.ref a2)] [(.ref w_NEXT_KEY), (.ref a1)])) X12 hx rfl rfl rfl (pc0 := 30) (pc' := 44) (same := false) rfl (hb hby own_d2_30) rfl (decide_eq_false fun q => hc7 (Value.ref.inj q)) (by decide) (by decide) ?_
              show Steps p.tables e below (T12.setTop (mkF m 44 #[.val (.ref a1), .val (.ref a2)] [])) _
              refine XS.iconst X12.here hx rfl (hb hby own_d2_44) ?_
              show Steps p.tables e below (T12.setTop (mkF m 45 #[.val (.ref a1), .val (.ref a2)] [(.int (0 : Int32))])) _
              exact retN X12 hx (t := .boolean) Bd.returns (by simp) (hb hby own_d2_45) hr
            · show own_Q2 Z a1 a2 w_coversRecord_a1 w_NEXT_KEY w_GAP w_RECORD w_IMPLICIT h0 n0 _ T12.heap _
              rw [e12]
              exact ⟨(by rw [own_f2, if_neg hc1, if_neg hc2, if_neg hc5, if_neg hc6, if_neg hc7]), N0, rfl⟩
-- body 3
theorem own_d3_0 : decode method_3_code 0 = .ok (.iload_n 0, 1) := by decide +kernel
theorem own_d3_1 : decode method_3_code 1 = .ok (.iload_n 1, 1) := by decide +kernel
theorem own_d3_2 : decode method_3_code 2 = .ok (.if_icmp .ne 5, 3) := by decide +kernel
theorem own_d3_5 : decode method_3_code 5 = .ok (.iconst 1, 1) := by decide +kernel
theorem own_d3_6 : decode method_3_code 6 = .ok (.ireturn, 1) := by decide +kernel
theorem own_d3_7 : decode method_3_code 7 = .ok (.iload_n 0, 1) := by decide +kernel
theorem own_d3_8 : decode method_3_code 8 = .ok (.iconst 2, 1) := by decide +kernel
theorem own_d3_9 : decode method_3_code 9 = .ok (.if_icmp .eq 13, 3) := by decide +kernel
theorem own_d3_12 : decode method_3_code 12 = .ok (.iload_n 0, 1) := by decide +kernel
theorem own_d3_13 : decode method_3_code 13 = .ok (.iconst 3, 1) := by decide +kernel
theorem own_d3_14 : decode method_3_code 14 = .ok (.if_icmp .eq 8, 3) := by decide +kernel
theorem own_d3_17 : decode method_3_code 17 = .ok (.iload_n 0, 1) := by decide +kernel
theorem own_d3_18 : decode method_3_code 18 = .ok (.iconst 4, 1) := by decide +kernel
theorem own_d3_19 : decode method_3_code 19 = .ok (.if_icmp .ne 7, 3) := by decide +kernel
theorem own_d3_22 : decode method_3_code 22 = .ok (.iconst 1, 1) := by decide +kernel
theorem own_d3_23 : decode method_3_code 23 = .ok (.goto 4, 3) := by decide +kernel
theorem own_d3_26 : decode method_3_code 26 = .ok (.iconst 0, 1) := by decide +kernel
theorem own_d3_27 : decode method_3_code 27 = .ok (.istore_n 2, 1) := by decide +kernel
theorem own_d3_28 : decode method_3_code 28 = .ok (.iload_n 2, 1) := by decide +kernel
theorem own_d3_29 : decode method_3_code 29 = .ok (.ifCond .eq 15, 3) := by decide +kernel
theorem own_d3_32 : decode method_3_code 32 = .ok (.iload_n 1, 1) := by decide +kernel
theorem own_d3_33 : decode method_3_code 33 = .ok (.iconst 3, 1) := by decide +kernel
theorem own_d3_34 : decode method_3_code 34 = .ok (.if_icmp .eq 8, 3) := by decide +kernel
theorem own_d3_37 : decode method_3_code 37 = .ok (.iload_n 1, 1) := by decide +kernel
theorem own_d3_38 : decode method_3_code 38 = .ok (.iconst 4, 1) := by decide +kernel
theorem own_d3_39 : decode method_3_code 39 = .ok (.if_icmp .ne 5, 3) := by decide +kernel
theorem own_d3_42 : decode method_3_code 42 = .ok (.iconst 1, 1) := by decide +kernel
theorem own_d3_43 : decode method_3_code 43 = .ok (.ireturn, 1) := by decide +kernel
theorem own_d3_44 : decode method_3_code 44 = .ok (.iload_n 0, 1) := by decide +kernel
theorem own_d3_45 : decode method_3_code 45 = .ok (.iconst 2, 1) := by decide +kernel
theorem own_d3_46 : decode method_3_code 46 = .ok (.if_icmp .ne 10, 3) := by decide +kernel
theorem own_d3_49 : decode method_3_code 49 = .ok (.iload_n 1, 1) := by decide +kernel
theorem own_d3_50 : decode method_3_code 50 = .ok (.iconst 5, 1) := by decide +kernel
theorem own_d3_51 : decode method_3_code 51 = .ok (.if_icmp .ne 5, 3) := by decide +kernel
theorem own_d3_54 : decode method_3_code 54 = .ok (.iconst 1, 1) := by decide +kernel
theorem own_d3_55 : decode method_3_code 55 = .ok (.ireturn, 1) := by decide +kernel
theorem own_d3_56 : decode method_3_code 56 = .ok (.iconst 0, 1) := by decide +kernel
theorem own_d3_57 : decode method_3_code 57 = .ok (.ireturn, 1) := by decide +kernel
theorem own_ef3 (m : MethodId) (x0 : Int32) (x1 : Int32) : entryFrame m #[(.int x0), (.int x1)] 3 = mkF m 0 #[.val (.int x0), .val (.int x1), .unset] [] := by first | (simp [entryFrame, mkF, argsToLocals, Value.category]; done) | rfl
def own_f3 (p1 : Int32) (p2 : Int32) : Int32 := if p1 = p2 then (1 : Int32)
    else if p1 = (2 : Int32) then (if p2 = (3 : Int32) then (1 : Int32)
        else if p2 = (4 : Int32) then (1 : Int32)
          else if p2 = (5 : Int32) then (1 : Int32)
            else (0 : Int32))
      else if p1 = (3 : Int32) then (if p2 = (3 : Int32) then (1 : Int32)
          else if p2 = (4 : Int32) then (1 : Int32)
            else (0 : Int32))
        else if p1 = (4 : Int32) then (if p2 = (3 : Int32) then (1 : Int32)
            else if p2 = (4 : Int32) then (1 : Int32)
              else (0 : Int32))
          else (0 : Int32)
def own_Q3 (Z : State) (p1 : Int32) (p2 : Int32) (h0 : Heap) (n0 : Nat) (v : Option Value) (h : Heap) (L : List Loc) : Prop := v = some (.int (own_f3 p1 p2)) ∧ Fr n0 L ∧ h = h0
set_option maxRecDepth 65536 in
set_option maxHeartbeats 40000000 in
theorem own_rm3 (l : Launch) (Z : State) (a0 : Array Value) (hw : ∀ d ∈ tables_1, d.before a0 Z = true) (ws : List Jvm.Cond) (p1 : Int32) (p2 : Int32) (h0 : Heap) (n0 : Nat) (Z0 : n0 ≤ h0.size) :
    MetFree l (⟨"com/example/kerb/kerb/txn/LockKindCoversPinLaw", "expected", "(II)Z"⟩ : MethodName) (head1 (Jvm.Cond.code (⟨"com/example/kerb/kerb/txn/LockKindCoversPinLaw", "expected", "(II)Z"⟩ : MethodName) method_3_code 3 (some .boolean) :: ws) ({ frames := 0, cells := 0, slots := 0, locals := 0 } : Room)) (fun a U => a = #[(.int p1), (.int p2)] ∧ Z.Warmed39 U.vm ∧ U.heap = h0) (fun _ _ _ _ _ => True) (fun _ U o U' => ∃ v L, o = .returned v ∧ own_Q3 Z p1 p2 h0 n0 v U'.heap L ∧ FrameEnd U o U' L ({ frames := 0, cells := 0, slots := 0, locals := 0 } : Room).cells ({ frames := 0, cells := 0, slots := 0, locals := 0 } : Room).slots) := by
  refine MetFree.of_bodySF (plainFor_of_name own_pn0) hisR ?_
  intro p e s m args below meth c s₁ Bd hml0 hP hK
  obtain ⟨rfl, hZ, hh⟩ := hP
  have hx := Bd.exec
  have hby := Bd.bytes
  have hml : c.maxLocals = 3 := hml0
  have hown : s.vm.findClass "com/example/kerb/kerb/txn/LockKindCoversPinLaw" = some m.cls := findClass_of_methodNamed Bd.named
  have hnm := (name_of_methodNamed Bd.named Bd.method).1
  have X0 : Stand p l e ({ frames := 0, cells := 0, slots := 0, locals := 0 } : Room) s m #[(.int p1), (.int p2)] below meth c s₁ [] 0 0 := Stand.of_body Bd
  have e0 : s₁.heap = h0 := by rw [← hh, Bd.state]; rfl
  have N0 := Fr.nil n0
  have pre0 : ∀ t, Steps p.tables e below (s₁.setTop (mkF m 0 #[.val (.int p1), .val (.int p2), .unset] [])) t → Steps p.tables e below (s₁.setTop (entryFrame m #[(.int p1), (.int p2)] 3)) t := fun t k => castTop (own_ef3 m p1 p2) k
  have k1 : ∀ t, Steps p.tables e below (s₁.setTop (mkF m 2 #[.val (.int p1), .val (.int p2), .unset] [(.int p2), (.int p1)])) t → Steps p.tables e below (s₁.setTop (entryFrame m #[(.int p1), (.int p2)] 3)) t := by
    intro t kt
    refine pre0 t ?_
    show Steps p.tables e below (s₁.setTop (mkF m 0 #[.val (.int p1), .val (.int p2), .unset] [])) _
    refine XS.iloadN X0.here hx rfl (hb hby own_d3_0) rfl ?_
    show Steps p.tables e below (s₁.setTop (mkF m 1 #[.val (.int p1), .val (.int p2), .unset] [(.int p1)])) _
    refine XS.iloadN X0.here hx rfl (hb hby own_d3_1) rfl ?_
    exact kt
  by_cases hc1 : p1 = p2
  ·
    obtain ⟨fs, hr, hrun, hended, hW, hsame⟩ := X0.leave (v := some (.int (1 : Int32))) (fun h => by rw [Bd.returns] at h; cases h)
    refine ⟨_, _, k1 _ ?_, hrun, hended, _, _, rfl, ?_, ⟨_, rfl⟩, hW, hsame.mono (by decide) (by decide)⟩
    · show Steps p.tables e below (s₁.setTop (mkF m 2 #[.val (.int p1), .val (.int p2), .unset] [(.int p2), (.int p1)])) _
      refine XS.icmpNo X0.here hx rfl (hb hby own_d3_2) rfl (teq hc1).2 ?_
      show Steps p.tables e below (s₁.setTop (mkF m 5 #[.val (.int p1), .val (.int p2), .unset] [])) _
      refine XS.iconst X0.here hx rfl (hb hby own_d3_5) ?_
      show Steps p.tables e below (s₁.setTop (mkF m 6 #[.val (.int p1), .val (.int p2), .unset] [(.int (1 : Int32))])) _
      exact retN X0 hx (t := .boolean) Bd.returns (by simp) (hb hby own_d3_6) hr
    · show own_Q3 Z p1 p2 h0 n0 _ s₁.heap _
      rw [e0]
      exact ⟨(by rw [own_f3, if_pos hc1]), N0, rfl⟩
  ·
    have k2 : ∀ t, Steps p.tables e below (s₁.setTop (mkF m 9 #[.val (.int p1), .val (.int p2), .unset] [(.int (2 : Int32)), (.int p1)])) t → Steps p.tables e below (s₁.setTop (entryFrame m #[(.int p1), (.int p2)] 3)) t := by
      intro t kt
      refine k1 t ?_
      show Steps p.tables e below (s₁.setTop (mkF m 2 #[.val (.int p1), .val (.int p2), .unset] [(.int p2), (.int p1)])) _
      refine XS.icmpYes X0.here hx rfl (pc0 := 2) (pc' := 7) rfl (hb hby own_d3_2) rfl (feq hc1).2 (by decide) (by decide) ?_
      show Steps p.tables e below (s₁.setTop (mkF m 7 #[.val (.int p1), .val (.int p2), .unset] [])) _
      refine XS.iloadN X0.here hx rfl (hb hby own_d3_7) rfl ?_
      show Steps p.tables e below (s₁.setTop (mkF m 8 #[.val (.int p1), .val (.int p2), .unset] [(.int p1)])) _
      refine XS.iconst X0.here hx rfl (hb hby own_d3_8) ?_
      exact kt
    by_cases hc2 : p1 = (2 : Int32)
    ·
      have k3 : ∀ t, Steps p.tables e below (s₁.setTop (mkF m 34 #[.val (.int p1), .val (.int p2), .val (.int (1 : Int32))] [(.int (3 : Int32)), (.int p2)])) t → Steps p.tables e below (s₁.setTop (entryFrame m #[(.int p1), (.int p2)] 3)) t := by
        intro t kt
        refine k2 t ?_
        show Steps p.tables e below (s₁.setTop (mkF m 9 #[.val (.int p1), .val (.int p2), .unset] [(.int (2 : Int32)), (.int p1)])) _
        refine XS.icmpYes X0.here hx rfl (pc0 := 9) (pc' := 22) rfl (hb hby own_d3_9) rfl (teq hc2).1 (by decide) (by decide) ?_
        show Steps p.tables e below (s₁.setTop (mkF m 22 #[.val (.int p1), .val (.int p2), .unset] [])) _
        refine XS.iconst X0.here hx rfl (hb hby own_d3_22) ?_
        show Steps p.tables e below (s₁.setTop (mkF m 23 #[.val (.int p1), .val (.int p2), .unset] [(.int (1 : Int32))])) _
        refine XS.goto X0.here hx rfl (pc0 := 23) (pc' := 27) rfl (hb hby own_d3_23) (by decide) (by decide) ?_
        show Steps p.tables e below (s₁.setTop (mkF m 27 #[.val (.int p1), .val (.int p2), .unset] [(.int (1 : Int32))])) _
        refine XS.istoreN X0.here hx rfl (hb hby own_d3_27) rfl (l' := #[.val (.int p1), .val (.int p2), .val (.int (1 : Int32))]) rfl ?_
        show Steps p.tables e below (s₁.setTop (mkF m 28 #[.val (.int p1), .val (.int p2), .val (.int (1 : Int32))] [])) _
        refine XS.iloadN X0.here hx rfl (hb hby own_d3_28) rfl ?_
        show Steps p.tables e below (s₁.setTop (mkF m 29 #[.val (.int p1), .val (.int p2), .val (.int (1 : Int32))] [(.int (1 : Int32))])) _
        refine XS.ifNo X0.here hx rfl (hb hby own_d3_29) rfl ((if0 _ _).trans (feq (by decide : ¬ ((1 : Int32) = (0 : Int32)))).1) ?_
        show Steps p.tables e below (s₁.setTop (mkF m 32 #[.val (.int p1), .val (.int p2), .val (.int (1 : Int32))] [])) _
        refine XS.iloadN X0.here hx rfl (hb hby own_d3_32) rfl ?_
        show Steps p.tables e below (s₁.setTop (mkF m 33 #[.val (.int p1), .val (.int p2), .val (.int (1 : Int32))] [(.int p2)])) _
        refine XS.iconst X0.here hx rfl (hb hby own_d3_33) ?_
        exact kt
      by_cases hc3 : p2 = (3 : Int32)
      ·
        obtain ⟨fs, hr, hrun, hended, hW, hsame⟩ := X0.leave (v := some (.int (1 : Int32))) (fun h => by rw [Bd.returns] at h; cases h)
        refine ⟨_, _, k3 _ ?_, hrun, hended, _, _, rfl, ?_, ⟨_, rfl⟩, hW, hsame.mono (by decide) (by decide)⟩
        · show Steps p.tables e below (s₁.setTop (mkF m 34 #[.val (.int p1), .val (.int p2), .val (.int (1 : Int32))] [(.int (3 : Int32)), (.int p2)])) _
          refine XS.icmpYes X0.here hx rfl (pc0 := 34) (pc' := 42) rfl (hb hby own_d3_34) rfl (teq hc3).1 (by decide) (by decide) ?_
          show Steps p.tables e below (s₁.setTop (mkF m 42 #[.val (.int p1), .val (.int p2), .val (.int (1 : Int32))] [])) _
          refine XS.iconst X0.here hx rfl (hb hby own_d3_42) ?_
          show Steps p.tables e below (s₁.setTop (mkF m 43 #[.val (.int p1), .val (.int p2), .val (.int (1 : Int32))] [(.int (1 : Int32))])) _
          exact retN X0 hx (t := .boolean) Bd.returns (by simp) (hb hby own_d3_43) hr
        · show own_Q3 Z p1 p2 h0 n0 _ s₁.heap _
          rw [e0]
          exact ⟨(by rw [own_f3, if_neg hc1, if_pos hc2, if_pos hc3]), N0, rfl⟩
      ·
        have k4 : ∀ t, Steps p.tables e below (s₁.setTop (mkF m 39 #[.val (.int p1), .val (.int p2), .val (.int (1 : Int32))] [(.int (4 : Int32)), (.int p2)])) t → Steps p.tables e below (s₁.setTop (entryFrame m #[(.int p1), (.int p2)] 3)) t := by
          intro t kt
          refine k3 t ?_
          show Steps p.tables e below (s₁.setTop (mkF m 34 #[.val (.int p1), .val (.int p2), .val (.int (1 : Int32))] [(.int (3 : Int32)), (.int p2)])) _
          refine XS.icmpNo X0.here hx rfl (hb hby own_d3_34) rfl (feq hc3).1 ?_
          show Steps p.tables e below (s₁.setTop (mkF m 37 #[.val (.int p1), .val (.int p2), .val (.int (1 : Int32))] [])) _
          refine XS.iloadN X0.here hx rfl (hb hby own_d3_37) rfl ?_
          show Steps p.tables e below (s₁.setTop (mkF m 38 #[.val (.int p1), .val (.int p2), .val (.int (1 : Int32))] [(.int p2)])) _
          refine XS.iconst X0.here hx rfl (hb hby own_d3_38) ?_
          exact kt
        by_cases hc4 : p2 = (4 : Int32)
        ·
          obtain ⟨fs, hr, hrun, hended, hW, hsame⟩ := X0.leave (v := some (.int (1 : Int32))) (fun h => by rw [Bd.returns] at h; cases h)
          refine ⟨_, _, k4 _ ?_, hrun, hended, _, _, rfl, ?_, ⟨_, rfl⟩, hW, hsame.mono (by decide) (by decide)⟩
          · show Steps p.tables e below (s₁.setTop (mkF m 39 #[.val (.int p1), .val (.int p2), .val (.int (1 : Int32))] [(.int (4 : Int32)), (.int p2)])) _
            refine XS.icmpNo X0.here hx rfl (hb hby own_d3_39) rfl (teq hc4).2 ?_
            show Steps p.tables e below (s₁.setTop (mkF m 42 #[.val (.int p1), .val (.int p2), .val (.int (1 : Int32))] [])) _
            refine XS.iconst X0.here hx rfl (hb hby own_d3_42) ?_
            show Steps p.tables e below (s₁.setTop (mkF m 43 #[.val (.int p1), .val (.int p2), .val (.int (1 : Int32))] [(.int (1 : Int32))])) _
            exact retN X0 hx (t := .boolean) Bd.returns (by simp) (hb hby own_d3_43) hr
          · show own_Q3 Z p1 p2 h0 n0 _ s₁.heap _
            rw [e0]
            exact ⟨(by rw [own_f3, if_neg hc1, if_pos hc2, if_neg hc3, if_pos hc4]), N0, rfl⟩
        ·
          have k5 : ∀ t, Steps p.tables e below (s₁.setTop (mkF m 51 #[.val (.int p1), .val (.int p2), .val (.int (1 : Int32))] [(.int (5 : Int32)), (.int p2)])) t → Steps p.tables e below (s₁.setTop (entryFrame m #[(.int p1), (.int p2)] 3)) t := by
            intro t kt
            refine k4 t ?_
            show Steps p.tables e below (s₁.setTop (mkF m 39 #[.val (.int p1), .val (.int p2), .val (.int (1 : Int32))] [(.int (4 : Int32)), (.int p2)])) _
            refine XS.icmpYes X0.here hx rfl (pc0 := 39) (pc' := 44) rfl (hb hby own_d3_39) rfl (feq hc4).2 (by decide) (by decide) ?_
            show Steps p.tables e below (s₁.setTop (mkF m 44 #[.val (.int p1), .val (.int p2), .val (.int (1 : Int32))] [])) _
            refine XS.iloadN X0.here hx rfl (hb hby own_d3_44) rfl ?_
            show Steps p.tables e below (s₁.setTop (mkF m 45 #[.val (.int p1), .val (.int p2), .val (.int (1 : Int32))] [(.int p1)])) _
            refine XS.iconst X0.here hx rfl (hb hby own_d3_45) ?_
            show Steps p.tables e below (s₁.setTop (mkF m 46 #[.val (.int p1), .val (.int p2), .val (.int (1 : Int32))] [(.int (2 : Int32)), (.int p1)])) _
            refine XS.icmpNo X0.here hx rfl (hb hby own_d3_46) rfl (teq hc2).2 ?_
            show Steps p.tables e below (s₁.setTop (mkF m 49 #[.val (.int p1), .val (.int p2), .val (.int (1 : Int32))] [])) _
            refine XS.iloadN X0.here hx rfl (hb hby own_d3_49) rfl ?_
            show Steps p.tables e below (s₁.setTop (mkF m 50 #[.val (.int p1), .val (.int p2), .val (.int (1 : Int32))] [(.int p2)])) _
            refine XS.iconst X0.here hx rfl (hb hby own_d3_50) ?_
            exact kt
          by_cases hc5 : p2 = (5 : Int32)
          ·
            obtain ⟨fs, hr, hrun, hended, hW, hsame⟩ := X0.leave (v := some (.int (1 : Int32))) (fun h => by rw [Bd.returns] at h; cases h)
            refine ⟨_, _, k5 _ ?_, hrun, hended, _, _, rfl, ?_, ⟨_, rfl⟩, hW, hsame.mono (by decide) (by decide)⟩
            · show Steps p.tables e below (s₁.setTop (mkF m 51 #[.val (.int p1), .val (.int p2), .val (.int (1 : Int32))] [(.int (5 : Int32)), (.int p2)])) _
              refine XS.icmpNo X0.here hx rfl (hb hby own_d3_51) rfl (teq hc5).2 ?_
              show Steps p.tables e below (s₁.setTop (mkF m 54 #[.val (.int p1), .val (.int p2), .val (.int (1 : Int32))] [])) _
              refine XS.iconst X0.here hx rfl (hb hby own_d3_54) ?_
              show Steps p.tables e below (s₁.setTop (mkF m 55 #[.val (.int p1), .val (.int p2), .val (.int (1 : Int32))] [(.int (1 : Int32))])) _
              exact retN X0 hx (t := .boolean) Bd.returns (by simp) (hb hby own_d3_55) hr
            · show own_Q3 Z p1 p2 h0 n0 _ s₁.heap _
              rw [e0]
              exact ⟨(by rw [own_f3, if_neg hc1, if_pos hc2, if_neg hc3, if_neg hc4, if_pos hc5]), N0, rfl⟩
          ·
            obtain ⟨fs, hr, hrun, hended, hW, hsame⟩ := X0.leave (v := some (.int (0 : Int32))) (fun h => by rw [Bd.returns] at h; cases h)
            refine ⟨_, _, k5 _ ?_, hrun, hended, _, _, rfl, ?_, ⟨_, rfl⟩, hW, hsame.mono (by decide) (by decide)⟩
            · show Steps p.tables e below (s₁.setTop (mkF m 51 #[.val (.int p1), .val (.int p2), .val (.int (1 : Int32))] [(.int (5 : Int32)), (.int p2)])) _
              refine XS.icmpYes X0.here hx rfl (pc0 := 51) (pc' := 56) rfl (hb hby own_d3_51) rfl (feq hc5).2 (by decide) (by decide) ?_
              show Steps p.tables e below (s₁.setTop (mkF m 56 #[.val (.int p1), .val (.int p2), .val (.int (1 : Int32))] [])) _
              refine XS.iconst X0.here hx rfl (hb hby own_d3_56) ?_
              show Steps p.tables e below (s₁.setTop (mkF m 57 #[.val (.int p1), .val (.int p2), .val (.int (1 : Int32))] [(.int (0 : Int32))])) _
              exact retN X0 hx (t := .boolean) Bd.returns (by simp) (hb hby own_d3_57) hr
            · show own_Q3 Z p1 p2 h0 n0 _ s₁.heap _
              rw [e0]
              exact ⟨(by rw [own_f3, if_neg hc1, if_pos hc2, if_neg hc3, if_neg hc4, if_neg hc5]), N0, rfl⟩
    ·
      have k6 : ∀ t, Steps p.tables e below (s₁.setTop (mkF m 14 #[.val (.int p1), .val (.int p2), .unset] [(.int (3 : Int32)), (.int p1)])) t → Steps p.tables e below (s₁.setTop (entryFrame m #[(.int p1), (.int p2)] 3)) t := by
        intro t kt
        refine k2 t ?_
        show Steps p.tables e below (s₁.setTop (mkF m 9 #[.val (.int p1), .val (.int p2), .unset] [(.int (2 : Int32)), (.int p1)])) _
        refine XS.icmpNo X0.here hx rfl (hb hby own_d3_9) rfl (feq hc2).1 ?_
        show Steps p.tables e below (s₁.setTop (mkF m 12 #[.val (.int p1), .val (.int p2), .unset] [])) _
        refine XS.iloadN X0.here hx rfl (hb hby own_d3_12) rfl ?_
        show Steps p.tables e below (s₁.setTop (mkF m 13 #[.val (.int p1), .val (.int p2), .unset] [(.int p1)])) _
        refine XS.iconst X0.here hx rfl (hb hby own_d3_13) ?_
        exact kt
      by_cases hc6 : p1 = (3 : Int32)
      ·
        have k7 : ∀ t, Steps p.tables e below (s₁.setTop (mkF m 34 #[.val (.int p1), .val (.int p2), .val (.int (1 : Int32))] [(.int (3 : Int32)), (.int p2)])) t → Steps p.tables e below (s₁.setTop (entryFrame m #[(.int p1), (.int p2)] 3)) t := by
          intro t kt
          refine k6 t ?_
          show Steps p.tables e below (s₁.setTop (mkF m 14 #[.val (.int p1), .val (.int p2), .unset] [(.int (3 : Int32)), (.int p1)])) _
          refine XS.icmpYes X0.here hx rfl (pc0 := 14) (pc' := 22) rfl (hb hby own_d3_14) rfl (teq hc6).1 (by decide) (by decide) ?_
          show Steps p.tables e below (s₁.setTop (mkF m 22 #[.val (.int p1), .val (.int p2), .unset] [])) _
          refine XS.iconst X0.here hx rfl (hb hby own_d3_22) ?_
          show Steps p.tables e below (s₁.setTop (mkF m 23 #[.val (.int p1), .val (.int p2), .unset] [(.int (1 : Int32))])) _
          refine XS.goto X0.here hx rfl (pc0 := 23) (pc' := 27) rfl (hb hby own_d3_23) (by decide) (by decide) ?_
          show Steps p.tables e below (s₁.setTop (mkF m 27 #[.val (.int p1), .val (.int p2), .unset] [(.int (1 : Int32))])) _
          refine XS.istoreN X0.here hx rfl (hb hby own_d3_27) rfl (l' := #[.val (.int p1), .val (.int p2), .val (.int (1 : Int32))]) rfl ?_
          show Steps p.tables e below (s₁.setTop (mkF m 28 #[.val (.int p1), .val (.int p2), .val (.int (1 : Int32))] [])) _
          refine XS.iloadN X0.here hx rfl (hb hby own_d3_28) rfl ?_
          show Steps p.tables e below (s₁.setTop (mkF m 29 #[.val (.int p1), .val (.int p2), .val (.int (1 : Int32))] [(.int (1 : Int32))])) _
          refine XS.ifNo X0.here hx rfl (hb hby own_d3_29) rfl ((if0 _ _).trans (feq (by decide : ¬ ((1 : Int32) = (0 : Int32)))).1) ?_
          show Steps p.tables e below (s₁.setTop (mkF m 32 #[.val (.int p1), .val (.int p2), .val (.int (1 : Int32))] [])) _
          refine XS.iloadN X0.here hx rfl (hb hby own_d3_32) rfl ?_
          show Steps p.tables e below (s₁.setTop (mkF m 33 #[.val (.int p1), .val (.int p2), .val (.int (1 : Int32))] [(.int p2)])) _
          refine XS.iconst X0.here hx rfl (hb hby own_d3_33) ?_
          exact kt
        by_cases hc7 : p2 = (3 : Int32)
        ·
          obtain ⟨fs, hr, hrun, hended, hW, hsame⟩ := X0.leave (v := some (.int (1 : Int32))) (fun h => by rw [Bd.returns] at h; cases h)
          refine ⟨_, _, k7 _ ?_, hrun, hended, _, _, rfl, ?_, ⟨_, rfl⟩, hW, hsame.mono (by decide) (by decide)⟩
          · show Steps p.tables e below (s₁.setTop (mkF m 34 #[.val (.int p1), .val (.int p2), .val (.int (1 : Int32))] [(.int (3 : Int32)), (.int p2)])) _
            refine XS.icmpYes X0.here hx rfl (pc0 := 34) (pc' := 42) rfl (hb hby own_d3_34) rfl (teq hc7).1 (by decide) (by decide) ?_
            show Steps p.tables e below (s₁.setTop (mkF m 42 #[.val (.int p1), .val (.int p2), .val (.int (1 : Int32))] [])) _
            refine XS.iconst X0.here hx rfl (hb hby own_d3_42) ?_
            show Steps p.tables e below (s₁.setTop (mkF m 43 #[.val (.int p1), .val (.int p2), .val (.int (1 : Int32))] [(.int (1 : Int32))])) _
            exact retN X0 hx (t := .boolean) Bd.returns (by simp) (hb hby own_d3_43) hr
          · show own_Q3 Z p1 p2 h0 n0 _ s₁.heap _
            rw [e0]
            exact ⟨(by rw [own_f3, if_neg hc1, if_neg hc2, if_pos hc6, if_pos hc7]), N0, rfl⟩
        ·
          have k8 : ∀ t, Steps p.tables e below (s₁.setTop (mkF m 39 #[.val (.int p1), .val (.int p2), .val (.int (1 : Int32))] [(.int (4 : Int32)), (.int p2)])) t → Steps p.tables e below (s₁.setTop (entryFrame m #[(.int p1), (.int p2)] 3)) t := by
            intro t kt
            refine k7 t ?_
            show Steps p.tables e below (s₁.setTop (mkF m 34 #[.val (.int p1), .val (.int p2), .val (.int (1 : Int32))] [(.int (3 : Int32)), (.int p2)])) _
            refine XS.icmpNo X0.here hx rfl (hb hby own_d3_34) rfl (feq hc7).1 ?_
            show Steps p.tables e below (s₁.setTop (mkF m 37 #[.val (.int p1), .val (.int p2), .val (.int (1 : Int32))] [])) _
            refine XS.iloadN X0.here hx rfl (hb hby own_d3_37) rfl ?_
            show Steps p.tables e below (s₁.setTop (mkF m 38 #[.val (.int p1), .val (.int p2), .val (.int (1 : Int32))] [(.int p2)])) _
            refine XS.iconst X0.here hx rfl (hb hby own_d3_38) ?_
            exact kt
          by_cases hc8 : p2 = (4 : Int32)
          ·
            obtain ⟨fs, hr, hrun, hended, hW, hsame⟩ := X0.leave (v := some (.int (1 : Int32))) (fun h => by rw [Bd.returns] at h; cases h)
            refine ⟨_, _, k8 _ ?_, hrun, hended, _, _, rfl, ?_, ⟨_, rfl⟩, hW, hsame.mono (by decide) (by decide)⟩
            · show Steps p.tables e below (s₁.setTop (mkF m 39 #[.val (.int p1), .val (.int p2), .val (.int (1 : Int32))] [(.int (4 : Int32)), (.int p2)])) _
              refine XS.icmpNo X0.here hx rfl (hb hby own_d3_39) rfl (teq hc8).2 ?_
              show Steps p.tables e below (s₁.setTop (mkF m 42 #[.val (.int p1), .val (.int p2), .val (.int (1 : Int32))] [])) _
              refine XS.iconst X0.here hx rfl (hb hby own_d3_42) ?_
              show Steps p.tables e below (s₁.setTop (mkF m 43 #[.val (.int p1), .val (.int p2), .val (.int (1 : Int32))] [(.int (1 : Int32))])) _
              exact retN X0 hx (t := .boolean) Bd.returns (by simp) (hb hby own_d3_43) hr
            · show own_Q3 Z p1 p2 h0 n0 _ s₁.heap _
              rw [e0]
              exact ⟨(by rw [own_f3, if_neg hc1, if_neg hc2, if_pos hc6, if_neg hc7, if_pos hc8]), N0, rfl⟩
          ·
            obtain ⟨fs, hr, hrun, hended, hW, hsame⟩ := X0.leave (v := some (.int (0 : Int32))) (fun h => by rw [Bd.returns] at h; cases h)
            refine ⟨_, _, k8 _ ?_, hrun, hended, _, _, rfl, ?_, ⟨_, rfl⟩, hW, hsame.mono (by decide) (by decide)⟩
            · show Steps p.tables e below (s₁.setTop (mkF m 39 #[.val (.int p1), .val (.int p2), .val (.int (1 : Int32))] [(.int (4 : Int32)), (.int p2)])) _
              refine XS.icmpYes X0.here hx rfl (pc0 := 39) (pc' := 44) rfl (hb hby own_d3_39) rfl (feq hc8).2 (by decide) (by decide) ?_
              show Steps p.tables e below (s₁.setTop (mkF m 44 #[.val (.int p1), .val (.int p2), .val (.int (1 : Int32))] [])) _
              refine XS.iloadN X0.here hx rfl (hb hby own_d3_44) rfl ?_
              show Steps p.tables e below (s₁.setTop (mkF m 45 #[.val (.int p1), .val (.int p2), .val (.int (1 : Int32))] [(.int p1)])) _
              refine XS.iconst X0.here hx rfl (hb hby own_d3_45) ?_
              show Steps p.tables e below (s₁.setTop (mkF m 46 #[.val (.int p1), .val (.int p2), .val (.int (1 : Int32))] [(.int (2 : Int32)), (.int p1)])) _
              refine XS.icmpYes X0.here hx rfl (pc0 := 46) (pc' := 56) rfl (hb hby own_d3_46) rfl (feq hc2).2 (by decide) (by decide) ?_
              show Steps p.tables e below (s₁.setTop (mkF m 56 #[.val (.int p1), .val (.int p2), .val (.int (1 : Int32))] [])) _
              refine XS.iconst X0.here hx rfl (hb hby own_d3_56) ?_
              show Steps p.tables e below (s₁.setTop (mkF m 57 #[.val (.int p1), .val (.int p2), .val (.int (1 : Int32))] [(.int (0 : Int32))])) _
              exact retN X0 hx (t := .boolean) Bd.returns (by simp) (hb hby own_d3_57) hr
            · show own_Q3 Z p1 p2 h0 n0 _ s₁.heap _
              rw [e0]
              exact ⟨(by rw [own_f3, if_neg hc1, if_neg hc2, if_pos hc6, if_neg hc7, if_neg hc8]), N0, rfl⟩
      ·
        have k9 : ∀ t, Steps p.tables e below (s₁.setTop (mkF m 19 #[.val (.int p1), .val (.int p2), .unset] [(.int (4 : Int32)), (.int p1)])) t → Steps p.tables e below (s₁.setTop (entryFrame m #[(.int p1), (.int p2)] 3)) t := by
          intro t kt
          refine k6 t ?_
          show Steps p.tables e below (s₁.setTop (mkF m 14 #[.val (.int p1), .val (.int p2), .unset] [(.int (3 : Int32)), (.int p1)])) _
          refine XS.icmpNo X0.here hx rfl (hb hby own_d3_14) rfl (feq hc6).1 ?_
          show Steps p.tables e below (s₁.setTop (mkF m 17 #[.val (.int p1), .val (.int p2), .unset] [])) _
          refine XS.iloadN X0.here hx rfl (hb hby own_d3_17) rfl ?_
          show Steps p.tables e below (s₁.setTop (mkF m 18 #[.val (.int p1), .val (.int p2), .unset] [(.int p1)])) _
          refine XS.iconst X0.here hx rfl (hb hby own_d3_18) ?_
          exact kt
        by_cases hc9 : p1 = (4 : Int32)
        ·
          have k10 : ∀ t, Steps p.tables e below (s₁.setTop (mkF m 34 #[.val (.int p1), .val (.int p2), .val (.int (1 : Int32))] [(.int (3 : Int32)), (.int p2)])) t → Steps p.tables e below (s₁.setTop (entryFrame m #[(.int p1), (.int p2)] 3)) t := by
            intro t kt
            refine k9 t ?_
            show Steps p.tables e below (s₁.setTop (mkF m 19 #[.val (.int p1), .val (.int p2), .unset] [(.int (4 : Int32)), (.int p1)])) _
            refine XS.icmpNo X0.here hx rfl (hb hby own_d3_19) rfl (teq hc9).2 ?_
            show Steps p.tables e below (s₁.setTop (mkF m 22 #[.val (.int p1), .val (.int p2), .unset] [])) _
            refine XS.iconst X0.here hx rfl (hb hby own_d3_22) ?_
            show Steps p.tables e below (s₁.setTop (mkF m 23 #[.val (.int p1), .val (.int p2), .unset] [(.int (1 : Int32))])) _
            refine XS.goto X0.here hx rfl (pc0 := 23) (pc' := 27) rfl (hb hby own_d3_23) (by decide) (by decide) ?_
            show Steps p.tables e below (s₁.setTop (mkF m 27 #[.val (.int p1), .val (.int p2), .unset] [(.int (1 : Int32))])) _
            refine XS.istoreN X0.here hx rfl (hb hby own_d3_27) rfl (l' := #[.val (.int p1), .val (.int p2), .val (.int (1 : Int32))]) rfl ?_
            show Steps p.tables e below (s₁.setTop (mkF m 28 #[.val (.int p1), .val (.int p2), .val (.int (1 : Int32))] [])) _
            refine XS.iloadN X0.here hx rfl (hb hby own_d3_28) rfl ?_
            show Steps p.tables e below (s₁.setTop (mkF m 29 #[.val (.int p1), .val (.int p2), .val (.int (1 : Int32))] [(.int (1 : Int32))])) _
            refine XS.ifNo X0.here hx rfl (hb hby own_d3_29) rfl ((if0 _ _).trans (feq (by decide : ¬ ((1 : Int32) = (0 : Int32)))).1) ?_
            show Steps p.tables e below (s₁.setTop (mkF m 32 #[.val (.int p1), .val (.int p2), .val (.int (1 : Int32))] [])) _
            refine XS.iloadN X0.here hx rfl (hb hby own_d3_32) rfl ?_
            show Steps p.tables e below (s₁.setTop (mkF m 33 #[.val (.int p1), .val (.int p2), .val (.int (1 : Int32))] [(.int p2)])) _
            refine XS.iconst X0.here hx rfl (hb hby own_d3_33) ?_
            exact kt
          by_cases hc10 : p2 = (3 : Int32)
          ·
            obtain ⟨fs, hr, hrun, hended, hW, hsame⟩ := X0.leave (v := some (.int (1 : Int32))) (fun h => by rw [Bd.returns] at h; cases h)
            refine ⟨_, _, k10 _ ?_, hrun, hended, _, _, rfl, ?_, ⟨_, rfl⟩, hW, hsame.mono (by decide) (by decide)⟩
            · show Steps p.tables e below (s₁.setTop (mkF m 34 #[.val (.int p1), .val (.int p2), .val (.int (1 : Int32))] [(.int (3 : Int32)), (.int p2)])) _
              refine XS.icmpYes X0.here hx rfl (pc0 := 34) (pc' := 42) rfl (hb hby own_d3_34) rfl (teq hc10).1 (by decide) (by decide) ?_
              show Steps p.tables e below (s₁.setTop (mkF m 42 #[.val (.int p1), .val (.int p2), .val (.int (1 : Int32))] [])) _
              refine XS.iconst X0.here hx rfl (hb hby own_d3_42) ?_
              show Steps p.tables e below (s₁.setTop (mkF m 43 #[.val (.int p1), .val (.int p2), .val (.int (1 : Int32))] [(.int (1 : Int32))])) _
              exact retN X0 hx (t := .boolean) Bd.returns (by simp) (hb hby own_d3_43) hr
            · show own_Q3 Z p1 p2 h0 n0 _ s₁.heap _
              rw [e0]
              exact ⟨(by rw [own_f3, if_neg hc1, if_neg hc2, if_neg hc6, if_pos hc9, if_pos hc10]), N0, rfl⟩
          ·
            have k11 : ∀ t, Steps p.tables e below (s₁.setTop (mkF m 39 #[.val (.int p1), .val (.int p2), .val (.int (1 : Int32))] [(.int (4 : Int32)), (.int p2)])) t → Steps p.tables e below (s₁.setTop (entryFrame m #[(.int p1), (.int p2)] 3)) t := by
              intro t kt
              refine k10 t ?_
              show Steps p.tables e below (s₁.setTop (mkF m 34 #[.val (.int p1), .val (.int p2), .val (.int (1 : Int32))] [(.int (3 : Int32)), (.int p2)])) _
              refine XS.icmpNo X0.here hx rfl (hb hby own_d3_34) rfl (feq hc10).1 ?_
              show Steps p.tables e below (s₁.setTop (mkF m 37 #[.val (.int p1), .val (.int p2), .val (.int (1 : Int32))] [])) _
              refine XS.iloadN X0.here hx rfl (hb hby own_d3_37) rfl ?_
              show Steps p.tables e below (s₁.setTop (mkF m 38 #[.val (.int p1), .val (.int p2), .val (.int (1 : Int32))] [(.int p2)])) _
              refine XS.iconst X0.here hx rfl (hb hby own_d3_38) ?_
              exact kt
            by_cases hc11 : p2 = (4 : Int32)
            ·
              obtain ⟨fs, hr, hrun, hended, hW, hsame⟩ := X0.leave (v := some (.int (1 : Int32))) (fun h => by rw [Bd.returns] at h; cases h)
              refine ⟨_, _, k11 _ ?_, hrun, hended, _, _, rfl, ?_, ⟨_, rfl⟩, hW, hsame.mono (by decide) (by decide)⟩
              · show Steps p.tables e below (s₁.setTop (mkF m 39 #[.val (.int p1), .val (.int p2), .val (.int (1 : Int32))] [(.int (4 : Int32)), (.int p2)])) _
                refine XS.icmpNo X0.here hx rfl (hb hby own_d3_39) rfl (teq hc11).2 ?_
                show Steps p.tables e below (s₁.setTop (mkF m 42 #[.val (.int p1), .val (.int p2), .val (.int (1 : Int32))] [])) _
                refine XS.iconst X0.here hx rfl (hb hby own_d3_42) ?_
                show Steps p.tables e below (s₁.setTop (mkF m 43 #[.val (.int p1), .val (.int p2), .val (.int (1 : Int32))] [(.int (1 : Int32))])) _
                exact retN X0 hx (t := .boolean) Bd.returns (by simp) (hb hby own_d3_43) hr
              · show own_Q3 Z p1 p2 h0 n0 _ s₁.heap _
                rw [e0]
                exact ⟨(by rw [own_f3, if_neg hc1, if_neg hc2, if_neg hc6, if_pos hc9, if_neg hc10, if_pos hc11]), N0, rfl⟩
            ·
              obtain ⟨fs, hr, hrun, hended, hW, hsame⟩ := X0.leave (v := some (.int (0 : Int32))) (fun h => by rw [Bd.returns] at h; cases h)
              refine ⟨_, _, k11 _ ?_, hrun, hended, _, _, rfl, ?_, ⟨_, rfl⟩, hW, hsame.mono (by decide) (by decide)⟩
              · show Steps p.tables e below (s₁.setTop (mkF m 39 #[.val (.int p1), .val (.int p2), .val (.int (1 : Int32))] [(.int (4 : Int32)), (.int p2)])) _
                refine XS.icmpYes X0.here hx rfl (pc0 := 39) (pc' := 44) rfl (hb hby own_d3_39) rfl (feq hc11).2 (by decide) (by decide) ?_
                show Steps p.tables e below (s₁.setTop (mkF m 44 #[.val (.int p1), .val (.int p2), .val (.int (1 : Int32))] [])) _
                refine XS.iloadN X0.here hx rfl (hb hby own_d3_44) rfl ?_
                show Steps p.tables e below (s₁.setTop (mkF m 45 #[.val (.int p1), .val (.int p2), .val (.int (1 : Int32))] [(.int p1)])) _
                refine XS.iconst X0.here hx rfl (hb hby own_d3_45) ?_
                show Steps p.tables e below (s₁.setTop (mkF m 46 #[.val (.int p1), .val (.int p2), .val (.int (1 : Int32))] [(.int (2 : Int32)), (.int p1)])) _
                refine XS.icmpYes X0.here hx rfl (pc0 := 46) (pc' := 56) rfl (hb hby own_d3_46) rfl (feq hc2).2 (by decide) (by decide) ?_
                show Steps p.tables e below (s₁.setTop (mkF m 56 #[.val (.int p1), .val (.int p2), .val (.int (1 : Int32))] [])) _
                refine XS.iconst X0.here hx rfl (hb hby own_d3_56) ?_
                show Steps p.tables e below (s₁.setTop (mkF m 57 #[.val (.int p1), .val (.int p2), .val (.int (1 : Int32))] [(.int (0 : Int32))])) _
                exact retN X0 hx (t := .boolean) Bd.returns (by simp) (hb hby own_d3_57) hr
              · show own_Q3 Z p1 p2 h0 n0 _ s₁.heap _
                rw [e0]
                exact ⟨(by rw [own_f3, if_neg hc1, if_neg hc2, if_neg hc6, if_pos hc9, if_neg hc10, if_neg hc11]), N0, rfl⟩
        ·
          obtain ⟨fs, hr, hrun, hended, hW, hsame⟩ := X0.leave (v := some (.int (0 : Int32))) (fun h => by rw [Bd.returns] at h; cases h)
          refine ⟨_, _, k9 _ ?_, hrun, hended, _, _, rfl, ?_, ⟨_, rfl⟩, hW, hsame.mono (by decide) (by decide)⟩
          · show Steps p.tables e below (s₁.setTop (mkF m 19 #[.val (.int p1), .val (.int p2), .unset] [(.int (4 : Int32)), (.int p1)])) _
            refine XS.icmpYes X0.here hx rfl (pc0 := 19) (pc' := 26) rfl (hb hby own_d3_19) rfl (feq hc9).2 (by decide) (by decide) ?_
            show Steps p.tables e below (s₁.setTop (mkF m 26 #[.val (.int p1), .val (.int p2), .unset] [])) _
            refine XS.iconst X0.here hx rfl (hb hby own_d3_26) ?_
            show Steps p.tables e below (s₁.setTop (mkF m 27 #[.val (.int p1), .val (.int p2), .unset] [(.int (0 : Int32))])) _
            refine XS.istoreN X0.here hx rfl (hb hby own_d3_27) rfl (l' := #[.val (.int p1), .val (.int p2), .val (.int (0 : Int32))]) rfl ?_
            show Steps p.tables e below (s₁.setTop (mkF m 28 #[.val (.int p1), .val (.int p2), .val (.int (0 : Int32))] [])) _
            refine XS.iloadN X0.here hx rfl (hb hby own_d3_28) rfl ?_
            show Steps p.tables e below (s₁.setTop (mkF m 29 #[.val (.int p1), .val (.int p2), .val (.int (0 : Int32))] [(.int (0 : Int32))])) _
            refine XS.ifYes X0.here hx rfl (pc0 := 29) (pc' := 44) rfl (hb hby own_d3_29) rfl ((if0 _ _).trans (teq (by decide : (0 : Int32) = (0 : Int32))).1) (by decide) (by decide) ?_
            show Steps p.tables e below (s₁.setTop (mkF m 44 #[.val (.int p1), .val (.int p2), .val (.int (0 : Int32))] [])) _
            refine XS.iloadN X0.here hx rfl (hb hby own_d3_44) rfl ?_
            show Steps p.tables e below (s₁.setTop (mkF m 45 #[.val (.int p1), .val (.int p2), .val (.int (0 : Int32))] [(.int p1)])) _
            refine XS.iconst X0.here hx rfl (hb hby own_d3_45) ?_
            show Steps p.tables e below (s₁.setTop (mkF m 46 #[.val (.int p1), .val (.int p2), .val (.int (0 : Int32))] [(.int (2 : Int32)), (.int p1)])) _
            refine XS.icmpYes X0.here hx rfl (pc0 := 46) (pc' := 56) rfl (hb hby own_d3_46) rfl (feq hc2).2 (by decide) (by decide) ?_
            show Steps p.tables e below (s₁.setTop (mkF m 56 #[.val (.int p1), .val (.int p2), .val (.int (0 : Int32))] [])) _
            refine XS.iconst X0.here hx rfl (hb hby own_d3_56) ?_
            show Steps p.tables e below (s₁.setTop (mkF m 57 #[.val (.int p1), .val (.int p2), .val (.int (0 : Int32))] [(.int (0 : Int32))])) _
            exact retN X0 hx (t := .boolean) Bd.returns (by simp) (hb hby own_d3_57) hr
          · show own_Q3 Z p1 p2 h0 n0 _ s₁.heap _
            rw [e0]
            exact ⟨(by rw [own_f3, if_neg hc1, if_neg hc2, if_neg hc6, if_neg hc9]), N0, rfl⟩
-- body 0
theorem own_ef0 (m : MethodId) (x0 : Int32) (x1 : Int32) : entryFrame m #[(.int x0), (.int x1)] maxLocals = mkF m 0 #[.val (.int x0), .val (.int x1), .unset, .unset, .unset, .unset] [] := by first | (simp [entryFrame, mkF, argsToLocals, Value.category, maxLocals]; done) | rfl
def own_f0 (p1 : Int32) (p2 : Int32) : Int32 := if ((p1 &&& (2147483647 : Int32)) - ((p1 &&& (2147483647 : Int32)) / (7 : Int32)) * (7 : Int32)) = (0 : Int32) then (if ((p2 &&& (2147483647 : Int32)) - ((p2 &&& (2147483647 : Int32)) / (7 : Int32)) * (7 : Int32)) = (0 : Int32) then (1 : Int32)
      else if ((p2 &&& (2147483647 : Int32)) - ((p2 &&& (2147483647 : Int32)) / (7 : Int32)) * (7 : Int32)) = (1 : Int32) then (1 : Int32)
        else if ((p2 &&& (2147483647 : Int32)) - ((p2 &&& (2147483647 : Int32)) / (7 : Int32)) * (7 : Int32)) = (2 : Int32) then (1 : Int32)
          else if ((p2 &&& (2147483647 : Int32)) - ((p2 &&& (2147483647 : Int32)) / (7 : Int32)) * (7 : Int32)) = (3 : Int32) then (1 : Int32)
            else if ((p2 &&& (2147483647 : Int32)) - ((p2 &&& (2147483647 : Int32)) / (7 : Int32)) * (7 : Int32)) = (4 : Int32) then (1 : Int32)
              else if ((p2 &&& (2147483647 : Int32)) - ((p2 &&& (2147483647 : Int32)) / (7 : Int32)) * (7 : Int32)) = (5 : Int32) then (1 : Int32)
                else (1 : Int32))
    else if ((p1 &&& (2147483647 : Int32)) - ((p1 &&& (2147483647 : Int32)) / (7 : Int32)) * (7 : Int32)) = (1 : Int32) then (if ((p2 &&& (2147483647 : Int32)) - ((p2 &&& (2147483647 : Int32)) / (7 : Int32)) * (7 : Int32)) = (0 : Int32) then (1 : Int32)
        else if ((p2 &&& (2147483647 : Int32)) - ((p2 &&& (2147483647 : Int32)) / (7 : Int32)) * (7 : Int32)) = (1 : Int32) then (1 : Int32)
          else if ((p2 &&& (2147483647 : Int32)) - ((p2 &&& (2147483647 : Int32)) / (7 : Int32)) * (7 : Int32)) = (2 : Int32) then (1 : Int32)
            else if ((p2 &&& (2147483647 : Int32)) - ((p2 &&& (2147483647 : Int32)) / (7 : Int32)) * (7 : Int32)) = (3 : Int32) then (1 : Int32)
              else if ((p2 &&& (2147483647 : Int32)) - ((p2 &&& (2147483647 : Int32)) / (7 : Int32)) * (7 : Int32)) = (4 : Int32) then (1 : Int32)
                else if ((p2 &&& (2147483647 : Int32)) - ((p2 &&& (2147483647 : Int32)) / (7 : Int32)) * (7 : Int32)) = (5 : Int32) then (1 : Int32)
                  else (1 : Int32))
      else if ((p1 &&& (2147483647 : Int32)) - ((p1 &&& (2147483647 : Int32)) / (7 : Int32)) * (7 : Int32)) = (2 : Int32) then (if ((p2 &&& (2147483647 : Int32)) - ((p2 &&& (2147483647 : Int32)) / (7 : Int32)) * (7 : Int32)) = (0 : Int32) then (1 : Int32)
          else if ((p2 &&& (2147483647 : Int32)) - ((p2 &&& (2147483647 : Int32)) / (7 : Int32)) * (7 : Int32)) = (1 : Int32) then (1 : Int32)
            else if ((p2 &&& (2147483647 : Int32)) - ((p2 &&& (2147483647 : Int32)) / (7 : Int32)) * (7 : Int32)) = (2 : Int32) then (1 : Int32)
              else if ((p2 &&& (2147483647 : Int32)) - ((p2 &&& (2147483647 : Int32)) / (7 : Int32)) * (7 : Int32)) = (3 : Int32) then (1 : Int32)
                else if ((p2 &&& (2147483647 : Int32)) - ((p2 &&& (2147483647 : Int32)) / (7 : Int32)) * (7 : Int32)) = (4 : Int32) then (1 : Int32)
                  else if ((p2 &&& (2147483647 : Int32)) - ((p2 &&& (2147483647 : Int32)) / (7 : Int32)) * (7 : Int32)) = (5 : Int32) then (1 : Int32)
                    else (1 : Int32))
        else if ((p1 &&& (2147483647 : Int32)) - ((p1 &&& (2147483647 : Int32)) / (7 : Int32)) * (7 : Int32)) = (3 : Int32) then (if ((p2 &&& (2147483647 : Int32)) - ((p2 &&& (2147483647 : Int32)) / (7 : Int32)) * (7 : Int32)) = (0 : Int32) then (1 : Int32)
            else if ((p2 &&& (2147483647 : Int32)) - ((p2 &&& (2147483647 : Int32)) / (7 : Int32)) * (7 : Int32)) = (1 : Int32) then (1 : Int32)
              else if ((p2 &&& (2147483647 : Int32)) - ((p2 &&& (2147483647 : Int32)) / (7 : Int32)) * (7 : Int32)) = (2 : Int32) then (1 : Int32)
                else if ((p2 &&& (2147483647 : Int32)) - ((p2 &&& (2147483647 : Int32)) / (7 : Int32)) * (7 : Int32)) = (3 : Int32) then (1 : Int32)
                  else if ((p2 &&& (2147483647 : Int32)) - ((p2 &&& (2147483647 : Int32)) / (7 : Int32)) * (7 : Int32)) = (4 : Int32) then (1 : Int32)
                    else if ((p2 &&& (2147483647 : Int32)) - ((p2 &&& (2147483647 : Int32)) / (7 : Int32)) * (7 : Int32)) = (5 : Int32) then (1 : Int32)
                      else (1 : Int32))
          else if ((p1 &&& (2147483647 : Int32)) - ((p1 &&& (2147483647 : Int32)) / (7 : Int32)) * (7 : Int32)) = (4 : Int32) then (if ((p2 &&& (2147483647 : Int32)) - ((p2 &&& (2147483647 : Int32)) / (7 : Int32)) * (7 : Int32)) = (0 : Int32) then (1 : Int32)
              else if ((p2 &&& (2147483647 : Int32)) - ((p2 &&& (2147483647 : Int32)) / (7 : Int32)) * (7 : Int32)) = (1 : Int32) then (1 : Int32)
                else if ((p2 &&& (2147483647 : Int32)) - ((p2 &&& (2147483647 : Int32)) / (7 : Int32)) * (7 : Int32)) = (2 : Int32) then (1 : Int32)
                  else if ((p2 &&& (2147483647 : Int32)) - ((p2 &&& (2147483647 : Int32)) / (7 : Int32)) * (7 : Int32)) = (3 : Int32) then (1 : Int32)
                    else if ((p2 &&& (2147483647 : Int32)) - ((p2 &&& (2147483647 : Int32)) / (7 : Int32)) * (7 : Int32)) = (4 : Int32) then (1 : Int32)
                      else if ((p2 &&& (2147483647 : Int32)) - ((p2 &&& (2147483647 : Int32)) / (7 : Int32)) * (7 : Int32)) = (5 : Int32) then (1 : Int32)
                        else (1 : Int32))
            else if ((p1 &&& (2147483647 : Int32)) - ((p1 &&& (2147483647 : Int32)) / (7 : Int32)) * (7 : Int32)) = (5 : Int32) then (if ((p2 &&& (2147483647 : Int32)) - ((p2 &&& (2147483647 : Int32)) / (7 : Int32)) * (7 : Int32)) = (0 : Int32) then (1 : Int32)
                else if ((p2 &&& (2147483647 : Int32)) - ((p2 &&& (2147483647 : Int32)) / (7 : Int32)) * (7 : Int32)) = (1 : Int32) then (1 : Int32)
                  else if ((p2 &&& (2147483647 : Int32)) - ((p2 &&& (2147483647 : Int32)) / (7 : Int32)) * (7 : Int32)) = (2 : Int32) then (1 : Int32)
                    else if ((p2 &&& (2147483647 : Int32)) - ((p2 &&& (2147483647 : Int32)) / (7 : Int32)) * (7 : Int32)) = (3 : Int32) then (1 : Int32)
                      else if ((p2 &&& (2147483647 : Int32)) - ((p2 &&& (2147483647 : Int32)) / (7 : Int32)) * (7 : Int32)) = (4 : Int32) then (1 : Int32)
                        else if ((p2 &&& (2147483647 : Int32)) - ((p2 &&& (2147483647 : Int32)) / (7 : Int32)) * (7 : Int32)) = (5 : Int32) then (1 : Int32)
                          else (1 : Int32))
              else if ((p2 &&& (2147483647 : Int32)) - ((p2 &&& (2147483647 : Int32)) / (7 : Int32)) * (7 : Int32)) = (0 : Int32) then (1 : Int32)
                else if ((p2 &&& (2147483647 : Int32)) - ((p2 &&& (2147483647 : Int32)) / (7 : Int32)) * (7 : Int32)) = (1 : Int32) then (1 : Int32)
                  else if ((p2 &&& (2147483647 : Int32)) - ((p2 &&& (2147483647 : Int32)) / (7 : Int32)) * (7 : Int32)) = (2 : Int32) then (1 : Int32)
                    else if ((p2 &&& (2147483647 : Int32)) - ((p2 &&& (2147483647 : Int32)) / (7 : Int32)) * (7 : Int32)) = (3 : Int32) then (1 : Int32)
                      else if ((p2 &&& (2147483647 : Int32)) - ((p2 &&& (2147483647 : Int32)) / (7 : Int32)) * (7 : Int32)) = (4 : Int32) then (1 : Int32)
                        else if ((p2 &&& (2147483647 : Int32)) - ((p2 &&& (2147483647 : Int32)) / (7 : Int32)) * (7 : Int32)) = (5 : Int32) then (1 : Int32)
                          else (1 : Int32)
def own_Q0 (Z : State) (p1 : Int32) (p2 : Int32) (w_INTENTION : Addr) (w_TABLE : Addr) (w_NEXT_KEY : Addr) (w_RECORD : Addr) (w_IMPLICIT : Addr) (w_GAP : Addr) (w_INSERT_INTENTION : Addr) (h0 : Heap) (n0 : Nat) (v : Option Value) (h : Heap) (L : List Loc) : Prop := v = some (.int (own_f0 p1 p2)) ∧ Fr n0 L
set_option maxRecDepth 65536 in
set_option maxHeartbeats 40000000 in
theorem own_rm0 (l : Launch) (Z : State) (a0 : Array Value) (hw : ∀ d ∈ tables_1, d.before a0 Z = true) (ws : List Jvm.Cond) (p1 : Int32) (p2 : Int32) (w_INTENTION : Addr) (w_TABLE : Addr) (w_NEXT_KEY : Addr) (w_RECORD : Addr) (w_IMPLICIT : Addr) (w_GAP : Addr) (w_INSERT_INTENTION : Addr) (h0 : Heap) (n0 : Nat) (Z0 : n0 ≤ h0.size) (ne_INTENTION_TABLE : w_INTENTION ≠ w_TABLE) (ne_INTENTION_NEXT_KEY : w_INTENTION ≠ w_NEXT_KEY) (ne_INTENTION_RECORD : w_INTENTION ≠ w_RECORD) (ne_INTENTION_IMPLICIT : w_INTENTION ≠ w_IMPLICIT) (ne_INTENTION_GAP : w_INTENTION ≠ w_GAP) (ne_INTENTION_INSERT_INTENTION : w_INTENTION ≠ w_INSERT_INTENTION) (ne_TABLE_NEXT_KEY : w_TABLE ≠ w_NEXT_KEY) (ne_TABLE_RECORD : w_TABLE ≠ w_RECORD) (ne_TABLE_IMPLICIT : w_TABLE ≠ w_IMPLICIT) (ne_TABLE_GAP : w_TABLE ≠ w_GAP) (ne_TABLE_INSERT_INTENTION : w_TABLE ≠ w_INSERT_INTENTION) (ne_NEXT_KEY_RECORD : w_NEXT_KEY ≠ w_RECORD) (ne_NEXT_KEY_IMPLICIT : w_NEXT_KEY ≠ w_IMPLICIT) (ne_NEXT_KEY_GAP : w_NEXT_KEY ≠ w_GAP) (ne_NEXT_KEY_INSERT_INTENTION : w_NEXT_KEY ≠ w_INSERT_INTENTION) (ne_RECORD_IMPLICIT : w_RECORD ≠ w_IMPLICIT) (ne_RECORD_GAP : w_RECORD ≠ w_GAP) (ne_RECORD_INSERT_INTENTION : w_RECORD ≠ w_INSERT_INTENTION) (ne_IMPLICIT_GAP : w_IMPLICIT ≠ w_GAP) (ne_IMPLICIT_INSERT_INTENTION : w_IMPLICIT ≠ w_INSERT_INTENTION) (ne_GAP_INSERT_INTENTION : w_GAP ≠ w_INSERT_INTENTION) (S_INTENTION : Sta Z h0 "com/example/kerb/kerb/txn/LockKind" "INTENTION" "Lcom/example/kerb/kerb/txn/LockKind;" (.ref w_INTENTION)) (S_TABLE : Sta Z h0 "com/example/kerb/kerb/txn/LockKind" "TABLE" "Lcom/example/kerb/kerb/txn/LockKind;" (.ref w_TABLE)) (S_NEXT_KEY : Sta Z h0 "com/example/kerb/kerb/txn/LockKind" "NEXT_KEY" "Lcom/example/kerb/kerb/txn/LockKind;" (.ref w_NEXT_KEY)) (S_RECORD : Sta Z h0 "com/example/kerb/kerb/txn/LockKind" "RECORD" "Lcom/example/kerb/kerb/txn/LockKind;" (.ref w_RECORD)) (S_IMPLICIT : Sta Z h0 "com/example/kerb/kerb/txn/LockKind" "IMPLICIT" "Lcom/example/kerb/kerb/txn/LockKind;" (.ref w_IMPLICIT)) (S_GAP : Sta Z h0 "com/example/kerb/kerb/txn/LockKind" "GAP" "Lcom/example/kerb/kerb/txn/LockKind;" (.ref w_GAP)) (S_INSERT_INTENTION : Sta Z h0 "com/example/kerb/kerb/txn/LockKind" "INSERT_INTENTION" "Lcom/example/kerb/kerb/txn/LockKind;" (.ref w_INSERT_INTENTION)) (F_coversRecord_w_INTENTION : Fld Z h0 w_INTENTION "com/example/kerb/kerb/txn/LockKind" "coversRecord" "Z" (.int (0 : Int32))) (E_w_INTENTION : Exa Z h0 w_INTENTION "com/example/kerb/kerb/txn/LockKind") (F_coversRecord_w_TABLE : Fld Z h0 w_TABLE "com/example/kerb/kerb/txn/LockKind" "coversRecord" "Z" (.int (0 : Int32))) (E_w_TABLE : Exa Z h0 w_TABLE "com/example/kerb/kerb/txn/LockKind") (F_coversRecord_w_NEXT_KEY : Fld Z h0 w_NEXT_KEY "com/example/kerb/kerb/txn/LockKind" "coversRecord" "Z" (.int (1 : Int32))) (E_w_NEXT_KEY : Exa Z h0 w_NEXT_KEY "com/example/kerb/kerb/txn/LockKind") (F_coversRecord_w_RECORD : Fld Z h0 w_RECORD "com/example/kerb/kerb/txn/LockKind" "coversRecord" "Z" (.int (1 : Int32))) (E_w_RECORD : Exa Z h0 w_RECORD "com/example/kerb/kerb/txn/LockKind") (F_coversRecord_w_IMPLICIT : Fld Z h0 w_IMPLICIT "com/example/kerb/kerb/txn/LockKind" "coversRecord" "Z" (.int (1 : Int32))) (E_w_IMPLICIT : Exa Z h0 w_IMPLICIT "com/example/kerb/kerb/txn/LockKind") (F_coversRecord_w_GAP : Fld Z h0 w_GAP "com/example/kerb/kerb/txn/LockKind" "coversRecord" "Z" (.int (0 : Int32))) (E_w_GAP : Exa Z h0 w_GAP "com/example/kerb/kerb/txn/LockKind") (F_coversRecord_w_INSERT_INTENTION : Fld Z h0 w_INSERT_INTENTION "com/example/kerb/kerb/txn/LockKind" "coversRecord" "Z" (.int (0 : Int32))) (E_w_INSERT_INTENTION : Exa Z h0 w_INSERT_INTENTION "com/example/kerb/kerb/txn/LockKind") :
    MetFree l x (head1 (Jvm.Cond.code x code maxLocals ret :: ws) room_1) (fun a U => a = #[(.int p1), (.int p2)] ∧ Z.Warmed39 U.vm ∧ U.heap = h0) (fun _ _ _ _ _ => True) (fun _ U o U' => ∃ v L, o = .returned v ∧ own_Q0 Z p1 p2 w_INTENTION w_TABLE w_NEXT_KEY w_RECORD w_IMPLICIT w_GAP w_INSERT_INTENTION h0 n0 v U'.heap L ∧ FrameEnd U o U' L room_1.cells room_1.slots) := by
  refine MetFree.of_bodySF (plainFor_of_name own_pn0) hisR ?_
  intro p e s m args below meth c s₁ Bd hml0 hP hK
  obtain ⟨rfl, hZ, hh⟩ := hP
  have hx := Bd.exec
  have hby := Bd.bytes
  have hml : c.maxLocals = 6 := hml0
  have hown : s.vm.findClass "com/example/kerb/kerb/txn/LockKindCoversPinLaw" = some m.cls := findClass_of_methodNamed Bd.named
  have hnm := (name_of_methodNamed Bd.named Bd.method).1
  have X0 : Stand p l e room_1 s m #[(.int p1), (.int p2)] below meth c s₁ [] 0 0 := Stand.of_body Bd
  have e0 : s₁.heap = h0 := by rw [← hh, Bd.state]; rfl
  have N0 := Fr.nil n0
  have pre0 : ∀ t, Steps p.tables e below (s₁.setTop (mkF m 0 #[.val (.int p1), .val (.int p2), .unset, .unset, .unset, .unset] [])) t → Steps p.tables e below (s₁.setTop (entryFrame m #[(.int p1), (.int p2)] maxLocals)) t := fun t k => castTop (own_ef0 m p1 p2) k
  have k1 : ∀ t, Steps p.tables e below (s₁.setTop (mkF m 7 #[.val (.int p1), .val (.int p2), .unset, .unset, .unset, .unset] [(.int ((p1 &&& (2147483647 : Int32)) - ((p1 &&& (2147483647 : Int32)) / (7 : Int32)) * (7 : Int32)))])) t → Steps p.tables e below (s₁.setTop (entryFrame m #[(.int p1), (.int p2)] maxLocals)) t := by
    intro t kt
    refine pre0 t ?_
    show Steps p.tables e below (s₁.setTop (mkF m 0 #[.val (.int p1), .val (.int p2), .unset, .unset, .unset, .unset] [])) _
    refine XS.iloadN X0.here hx rfl (hb hby at_0) rfl ?_
    show Steps p.tables e below (s₁.setTop (mkF m 1 #[.val (.int p1), .val (.int p2), .unset, .unset, .unset, .unset] [(.int p1)])) _
    refine X0.ldcInt hx hown (mvT hZ (hw _ (List.mem_of_getElem? (i := 0) rfl))) (g := (mkF m 1 #[.val (.int p1), .val (.int p2), .unset, .unset, .unset, .unset] [(.int p1)])) rfl (hb hby at_1) _ ?_
    show Steps p.tables e below (s₁.setTop (mkF m 3 #[.val (.int p1), .val (.int p2), .unset, .unset, .unset, .unset] [(.int (2147483647 : Int32)), (.int p1)])) _
    refine XS.iand X0.here hx rfl (hb hby at_3) rfl ?_
    show Steps p.tables e below (s₁.setTop (mkF m 4 #[.val (.int p1), .val (.int p2), .unset, .unset, .unset, .unset] [(.int (p1 &&& (2147483647 : Int32)))])) _
    refine XS.bipush X0.here hx rfl (hb hby at_4) ?_
    show Steps p.tables e below (s₁.setTop (mkF m 6 #[.val (.int p1), .val (.int p2), .unset, .unset, .unset, .unset] [(.int (7 : Int32)), (.int (p1 &&& (2147483647 : Int32)))])) _
    refine XS.irem X0.here hx rfl (hb hby at_6) rfl (by decide) ?_
    exact kt
  by_cases hc1 : ((p1 &&& (2147483647 : Int32)) - ((p1 &&& (2147483647 : Int32)) / (7 : Int32)) * (7 : Int32)) = (0 : Int32)
  ·
    have k2 : ∀ t, Steps p.tables e below (s₁.setTop (mkF m 7 #[.val (.int p1), .val (.int p2), .unset, .unset, .unset, .unset] [(.int (0 : Int32))])) t → Steps p.tables e below (s₁.setTop (entryFrame m #[(.int p1), (.int p2)] maxLocals)) t := by
      intro t kt
      refine k1 t ?_
      rw [hc1]
      exact kt
    have k3 : ∀ t, Steps p.tables e below (s₁.setTop (mkF m 15 #[.val (.int p1), .val (.int p2), .val (.int (0 : Int32)), .unset, .unset, .unset] [(.int ((p2 &&& (2147483647 : Int32)) - ((p2 &&& (2147483647 : Int32)) / (7 : Int32)) * (7 : Int32)))])) t → Steps p.tables e below (s₁.setTop (entryFrame m #[(.int p1), (.int p2)] maxLocals)) t := by
      intro t kt
      refine k2 t ?_
      show Steps p.tables e below (s₁.setTop (mkF m 7 #[.val (.int p1), .val (.int p2), .unset, .unset, .unset, .unset] [(.int (0 : Int32))])) _
      refine XS.istoreN X0.here hx rfl (hb hby at_7) rfl (l' := #[.val (.int p1), .val (.int p2), .val (.int (0 : Int32)), .unset, .unset, .unset]) rfl ?_
      show Steps p.tables e below (s₁.setTop (mkF m 8 #[.val (.int p1), .val (.int p2), .val (.int (0 : Int32)), .unset, .unset, .unset] [])) _
      refine XS.iloadN X0.here hx rfl (hb hby at_8) rfl ?_
      show Steps p.tables e below (s₁.setTop (mkF m 9 #[.val (.int p1), .val (.int p2), .val (.int (0 : Int32)), .unset, .unset, .unset] [(.int p2)])) _
      refine X0.ldcInt hx hown (mvT hZ (hw _ (List.mem_of_getElem? (i := 0) rfl))) (g := (mkF m 9 #[.val (.int p1), .val (.int p2), .val (.int (0 : Int32)), .unset, .unset, .unset] [(.int p2)])) rfl (hb hby at_9) _ ?_
      show Steps p.tables e below (s₁.setTop (mkF m 11 #[.val (.int p1), .val (.int p2), .val (.int (0 : Int32)), .unset, .unset, .unset] [(.int (2147483647 : Int32)), (.int p2)])) _
      refine XS.iand X0.here hx rfl (hb hby at_11) rfl ?_
      show Steps p.tables e below (s₁.setTop (mkF m 12 #[.val (.int p1), .val (.int p2), .val (.int (0 : Int32)), .unset, .unset, .unset] [(.int (p2 &&& (2147483647 : Int32)))])) _
      refine XS.bipush X0.here hx rfl (hb hby at_12) ?_
      show Steps p.tables e below (s₁.setTop (mkF m 14 #[.val (.int p1), .val (.int p2), .val (.int (0 : Int32)), .unset, .unset, .unset] [(.int (7 : Int32)), (.int (p2 &&& (2147483647 : Int32)))])) _
      refine XS.irem X0.here hx rfl (hb hby at_14) rfl (by decide) ?_
      exact kt
    by_cases hc2 : ((p2 &&& (2147483647 : Int32)) - ((p2 &&& (2147483647 : Int32)) / (7 : Int32)) * (7 : Int32)) = (0 : Int32)
    ·
      have k4 : ∀ t, Steps p.tables e below (s₁.setTop (mkF m 15 #[.val (.int p1), .val (.int p2), .val (.int (0 : Int32)), .unset, .unset, .unset] [(.int (0 : Int32))])) t → Steps p.tables e below (s₁.setTop (entryFrame m #[(.int p1), (.int p2)] maxLocals)) t := by
        intro t kt
        refine k3 t ?_
        rw [hc2]
        exact kt
      obtain ⟨v5, _, ⟨T5, L5, k5, n5⟩, -, X5, ⟨Lc5, hQ5, l5, y5, z5⟩, st5⟩ := Jvm.LawKit.callS X0 hx (y := (⟨"com/example/kerb/kerb/txn/LockKindCoversPinLaw", "pick", "(I)Lcom/example/kerb/kerb/txn/LockKind;"⟩ : MethodName)) hown (mvT hZ (hw _ (List.mem_of_getElem? (i := 1) rfl))) (mvT hZ (hw _ (List.mem_of_getElem? (i := 2) rfl))) (mvT hZ (hw _ (List.mem_of_getElem? (i := 3) rfl))) (mvT hZ (hw _ (List.mem_of_getElem? (i := 4) rfl))) (by decide) (backOf (W := 0) (own_rm1 l Z a0 hw [] (0 : Int32) w_INTENTION w_TABLE w_NEXT_KEY w_RECORD w_IMPLICIT w_GAP w_INSERT_INTENTION h0 n0 Z0 S_INTENTION S_TABLE S_NEXT_KEY S_RECORD S_IMPLICIT S_GAP S_INSERT_INTENTION) hZ (hw _ (List.mem_of_getElem? (i := 4) rfl)) (hw _ (List.mem_of_getElem? (i := 3) rfl)) (by decide) (by decide)) (g := (mkF m 17 #[.val (.int p1), .val (.int p2), .val (.int (0 : Int32)), .val (.int (0 : Int32)), .unset, .unset] [(.int (0 : Int32))])) rfl (by rw [hml]; rfl) (argsL := [(.int (0 : Int32))]) (rest := []) (lenOf own_pd93 rfl) rfl (by show 2 * 0 + _ ≤ _; exact Nat.le_of_eq rfl) (hb hby at_17) (fun _ _ => ⟨rfl, e0, (by decide : 0 + 0 ≤ _), (by decide : 0 + 0 ≤ _)⟩)
      dsimp only [Pt.U, Pt.locs, Pt.cells, Pt.slots] at X5 l5 y5 z5 st5 hQ5
      subst l5 y5 z5
      obtain ⟨hv5, N5q, e5⟩ := hQ5
      have N6 := Fr.app N0 N5q
      rw [show (own_f1 (0 : Int32) w_INTENTION w_TABLE w_NEXT_KEY w_RECORD w_IMPLICIT w_GAP w_INSERT_INTENTION) = w_INTENTION from by first | rfl | decide | simp [own_f1]] at hv5
      subst hv5
      obtain ⟨v7, _, ⟨T7, L7, k7, n7⟩, -, X7, ⟨Lc7, hQ7, l7, y7, z7⟩, st7⟩ := Jvm.LawKit.callS X5 hx (y := (⟨"com/example/kerb/kerb/txn/LockKindCoversPinLaw", "pick", "(I)Lcom/example/kerb/kerb/txn/LockKind;"⟩ : MethodName)) hown (mvT hZ (hw _ (List.mem_of_getElem? (i := 1) rfl))) (mvT hZ (hw _ (List.mem_of_getElem? (i := 2) rfl))) (mvT hZ (hw _ (List.mem_of_getElem? (i := 3) rfl))) (mvT hZ (hw _ (List.mem_of_getElem? (i := 4) rfl))) (by decide) (backOf (W := 0) (own_rm1 l Z a0 hw [] (0 : Int32) w_INTENTION w_TABLE w_NEXT_KEY w_RECORD w_IMPLICIT w_GAP w_INSERT_INTENTION h0 n0 Z0 S_INTENTION S_TABLE S_NEXT_KEY S_RECORD S_IMPLICIT S_GAP S_INSERT_INTENTION) hZ (hw _ (List.mem_of_getElem? (i := 4) rfl)) (hw _ (List.mem_of_getElem? (i := 3) rfl)) (by decide) (by decide)) (g := (mkF m 23 #[.val (.int p1), .val (.int p2), .val (.int (0 : Int32)), .val (.int (0 : Int32)), .val (.ref w_INTENTION), .unset] [(.int (0 : Int32))])) rfl (by rw [hml]; rfl) (argsL := [(.int (0 : Int32))]) (rest := []) (lenOf own_pd93 rfl) rfl (by show 2 * 0 + _ ≤ _; exact Nat.le_of_eq rfl) (hb hby at_23) (fun _ _ => ⟨rfl, e5, (by decide : 0 + 0 ≤ _), (by decide : 0 + 0 ≤ _)⟩)
      dsimp only [Pt.U, Pt.locs, Pt.cells, Pt.slots] at X7 l7 y7 z7 st7 hQ7
      subst l7 y7 z7
      obtain ⟨hv7, N7q, e7⟩ := hQ7
      have N8 := Fr.app N6 N7q
      rw [show (own_f1 (0 : Int32) w_INTENTION w_TABLE w_NEXT_KEY w_RECORD w_IMPLICIT w_GAP w_INSERT_INTENTION) = w_INTENTION from by first | rfl | decide | simp [own_f1]] at hv7
      subst hv7
      obtain ⟨cq9, kq9, q9a, q9b, q9c⟩ := isOf hZ e7 E_w_INTENTION
      obtain ⟨v9, _, ⟨T9, L9, k9, n9⟩, -, X9, ⟨Lc9, hQ9, l9, y9, z9⟩, st9⟩ := X7.virtualBack hx (y := (⟨"com/example/kerb/kerb/txn/LockKind", "covers", "(Lcom/example/kerb/kerb/txn/LockKind;)Z"⟩ : MethodName)) (z := (⟨"com/example/kerb/kerb/txn/LockKind", "covers", "(Lcom/example/kerb/kerb/txn/LockKind;)Z"⟩ : MethodName)) hown (mvT hZ (hw _ (List.mem_of_getElem? (i := 10) rfl))) (mvT hZ (hw _ (List.mem_of_getElem? (i := 11) rfl))) (notFace_of_selects (args := #[]) (mvT hZ (hw _ (List.mem_of_getElem? (i := 13) rfl)))) (mvT hZ (hw _ (List.mem_of_getElem? (i := 13) rfl))) (mvT hZ (hw _ (List.mem_of_getElem? (i := 12) rfl))) (by decide) (backOf (W := 0) (own_rm2 l Z a0 hw [] w_INTENTION w_INTENTION (0 : Int32) w_NEXT_KEY w_GAP w_RECORD w_IMPLICIT h0 n0 Z0 F_coversRecord_w_INTENTION S_NEXT_KEY S_GAP S_RECORD S_IMPLICIT) hZ (hw _ (List.mem_of_getElem? (i := 14) rfl)) (hw _ (List.mem_of_getElem? (i := 6) rfl)) (by decide) (by decide)) q9a q9c (g := (mkF m 32 #[.val (.int p1), .val (.int p2), .val (.int (0 : Int32)), .val (.int (0 : Int32)), .val (.ref w_INTENTION), .val (.ref w_INTENTION)] [(.ref w_INTENTION), (.ref w_INTENTION)])) rfl (by rw [hml]; rfl) (Steps.refl _) (argsL := [(.ref w_INTENTION)]) (rest := []) (lenOf own_pd94 rfl) rfl (by show 2 * 0 + _ ≤ _; exact Nat.le_of_eq rfl) (hb hby at_32) (fun _ _ => ⟨rfl, e7, (by decide : 0 + 0 ≤ _), (by decide : 0 + 0 ≤ _)⟩)
      dsimp only [Pt.U, Pt.locs, Pt.cells, Pt.slots] at X9 l9 y9 z9 st9 hQ9
      subst l9 y9 z9
      obtain ⟨hv9, N9q, e9⟩ := hQ9
      have N10 := Fr.app N8 N9q
      rw [show (own_f2 w_INTENTION w_INTENTION (0 : Int32) w_NEXT_KEY w_GAP w_RECORD w_IMPLICIT) = (1 : Int32) from by first | rfl | decide | simp [own_f2]] at hv9
      subst hv9
      obtain ⟨v11, _, ⟨T11, L11, k11, n11⟩, -, X11, ⟨Lc11, hQ11, l11, y11, z11⟩, st11⟩ := Jvm.LawKit.callS X9 hx (y := (⟨"com/example/kerb/kerb/txn/LockKindCoversPinLaw", "expected", "(II)Z"⟩ : MethodName)) hown (mvT hZ (hw _ (List.mem_of_getElem? (i := 19) rfl))) (mvT hZ (hw _ (List.mem_of_getElem? (i := 20) rfl))) (mvT hZ (hw _ (List.mem_of_getElem? (i := 3) rfl))) (mvT hZ (hw _ (List.mem_of_getElem? (i := 21) rfl))) (by decide) (backOf (W := 1) (own_rm3 l Z a0 hw [] (0 : Int32) (0 : Int32) h0 n0 Z0) hZ (hw _ (List.mem_of_getElem? (i := 21) rfl)) (hw _ (List.mem_of_getElem? (i := 3) rfl)) (by decide) (by decide)) (g := (mkF m 37 #[.val (.int p1), .val (.int p2), .val (.int (0 : Int32)), .val (.int (0 : Int32)), .val (.ref w_INTENTION), .val (.ref w_INTENTION)] [(.int (0 : Int32)), (.int (0 : Int32)), (.int (1 : Int32))])) rfl (by rw [hml]; rfl) (argsL := [(.int (0 : Int32)), (.int (0 : Int32))]) (rest := [(.int (1 : Int32))]) (lenOf own_pd95 rfl) rfl (by show 2 * 0 + _ ≤ _; exact Nat.le_of_eq rfl) (hb hby at_37) (fun _ _ => ⟨rfl, e9, (by decide : 0 + 0 ≤ _), (by decide : 0 + 0 ≤ _)⟩)
      dsimp only [Pt.U, Pt.locs, Pt.cells, Pt.slots] at X11 l11 y11 z11 st11 hQ11
      subst l11 y11 z11
      obtain ⟨hv11, N11q, e11⟩ := hQ11
      have N12 := Fr.app N10 N11q
      rw [show (own_f3 (0 : Int32) (0 : Int32)) = (1 : Int32) from by first | rfl | decide | simp [own_f3]] at hv11
      subst hv11
      obtain ⟨fs, hr, hrun, hended, hW, hsame⟩ := X11.leave (v := some (.int (1 : Int32))) (fun h => by rw [Bd.returns] at h; cases h)
      refine ⟨_, _, k4 _ ?_, hrun, hended, _, _, rfl, ?_, ⟨_, rfl⟩, hW, hsame.mono (by decide) (by decide)⟩
      · show Steps p.tables e below (s₁.setTop (mkF m 15 #[.val (.int p1), .val (.int p2), .val (.int (0 : Int32)), .unset, .unset, .unset] [(.int (0 : Int32))])) _
        refine XS.istoreN X0.here hx rfl (hb hby at_15) rfl (l' := #[.val (.int p1), .val (.int p2), .val (.int (0 : Int32)), .val (.int (0 : Int32)), .unset, .unset]) rfl ?_
        show Steps p.tables e below (s₁.setTop (mkF m 16 #[.val (.int p1), .val (.int p2), .val (.int (0 : Int32)), .val (.int (0 : Int32)), .unset, .unset] [])) _
        refine XS.iloadN X0.here hx rfl (hb hby at_16) rfl ?_
        show Steps p.tables e below (s₁.setTop (mkF m 17 #[.val (.int p1), .val (.int p2), .val (.int (0 : Int32)), .val (.int (0 : Int32)), .unset, .unset] [(.int (0 : Int32))])) _
        refine st5 _ ?_
        show Steps p.tables e below (T5.setTop (mkF m 20 #[.val (.int p1), .val (.int p2), .val (.int (0 : Int32)), .val (.int (0 : Int32)), .unset, .unset] [(.ref w_INTENTION)])) _
        refine XS.astore X5.here hx rfl (hb hby at_20) rfl rfl (l' := #[.val (.int p1), .val (.int p2), .val (.int (0 : Int32)), .val (.int (0 : Int32)), .val (.ref w_INTENTION), .unset]) rfl ?_
        show Steps p.tables e below (T5.setTop (mkF m 22 #[.val (.int p1), .val (.int p2), .val (.int (0 : Int32)), .val (.int (0 : Int32)), .val (.ref w_INTENTION), .unset] [])) _
        refine XS.iloadN X5.here hx rfl (hb hby at_22) rfl ?_
        show Steps p.tables e below (T5.setTop (mkF m 23 #[.val (.int p1), .val (.int p2), .val (.int (0 : Int32)), .val (.int (0 : Int32)), .val (.ref w_INTENTION), .unset] [(.int (0 : Int32))])) _
        refine st7 _ ?_
        show Steps p.tables e below (T7.setTop (mkF m 26 #[.val (.int p1), .val (.int p2), .val (.int (0 : Int32)), .val (.int (0 : Int32)), .val (.ref w_INTENTION), .unset] [(.ref w_INTENTION)])) _
        refine XS.astore X7.here hx rfl (hb hby at_26) rfl rfl (l' := #[.val (.int p1), .val (.int p2), .val (.int (0 : Int32)), .val (.int (0 : Int32)), .val (.ref w_INTENTION), .val (.ref w_INTENTION)]) rfl ?_
        show Steps p.tables e below (T7.setTop (mkF m 28 #[.val (.int p1), .val (.int p2), .val (.int (0 : Int32)), .val (.int (0 : Int32)), .val (.ref w_INTENTION), .val (.ref w_INTENTION)] [])) _
        refine XS.aload X7.here hx rfl (hb hby at_28) rfl rfl ?_
        show Steps p.tables e below (T7.setTop (mkF m 30 #[.val (.int p1), .val (.int p2), .val (.int (0 : Int32)), .val (.int (0 : Int32)), .val (.ref w_INTENTION), .val (.ref w_INTENTION)] [(.ref w_INTENTION)])) _
        refine XS.aload X7.here hx rfl (hb hby at_30) rfl rfl ?_
        show Steps p.tables e below (T7.setTop (mkF m 32 #[.val (.int p1), .val (.int p2), .val (.int (0 : Int32)), .val (.int (0 : Int32)), .val (.ref w_INTENTION), .val (.ref w_INTENTION)] [(.ref w_INTENTION), (.ref w_INTENTION)])) _
        refine st9.trans ?_
        show Steps p.tables e below (T9.setTop (mkF m 35 #[.val (.int p1), .val (.int p2), .val (.int (0 : Int32)), .val (.int (0 : Int32)), .val (.ref w_INTENTION), .val (.ref w_INTENTION)] [(.int (1 : Int32))])) _
        refine XS.iloadN X9.here hx rfl (hb hby at_35) rfl ?_
        show Steps p.tables e below (T9.setTop (mkF m 36 #[.val (.int p1), .val (.int p2), .val (.int (0 : Int32)), .val (.int (0 : Int32)), .val (.ref w_INTENTION), .val (.ref w_INTENTION)] [(.int (0 : Int32)), (.int (1 : Int32))])) _
        refine XS.iloadN X9.here hx rfl (hb hby at_36) rfl ?_
        show Steps p.tables e below (T9.setTop (mkF m 37 #[.val (.int p1), .val (.int p2), .val (.int (0 : Int32)), .val (.int (0 : Int32)), .val (.ref w_INTENTION), .val (.ref w_INTENTION)] [(.int (0 : Int32)), (.int (0 : Int32)), (.int (1 : Int32))])) _
        refine st11 _ ?_
        show Steps p.tables e below (T11.setTop (mkF m 40 #[.val (.int p1), .val (.int p2), .val (.int (0 : Int32)), .val (.int (0 : Int32)), .val (.ref w_INTENTION), .val (.ref w_INTENTION)] [(.int (1 : Int32)), (.int (1 : Int32))])) _
        refine XS.icmpNo X11.here hx rfl (hb hby at_40) rfl (teq (by decide : (1 : Int32) = (1 : Int32))).2 ?_
        show Steps p.tables e below (T11.setTop (mkF m 43 #[.val (.int p1), .val (.int p2), .val (.int (0 : Int32)), .val (.int (0 : Int32)), .val (.ref w_INTENTION), .val (.ref w_INTENTION)] [])) _
        refine XS.iconst X11.here hx rfl (hb hby at_43) ?_
        show Steps p.tables e below (T11.setTop (mkF m 44 #[.val (.int p1), .val (.int p2), .val (.int (0 : Int32)), .val (.int (0 : Int32)), .val (.ref w_INTENTION), .val (.ref w_INTENTION)] [(.int (1 : Int32))])) _
        refine XS.goto X11.here hx rfl (pc0 := 44) (pc' := 48) rfl (hb hby at_44) (by decide) (by decide) ?_
        show Steps p.tables e below (T11.setTop (mkF m 48 #[.val (.int p1), .val (.int p2), .val (.int (0 : Int32)), .val (.int (0 : Int32)), .val (.ref w_INTENTION), .val (.ref w_INTENTION)] [(.int (1 : Int32))])) _
        exact retN X11 hx (t := .boolean) Bd.returns (by simp) (hb hby at_48) hr
      · show own_Q0 Z p1 p2 w_INTENTION w_TABLE w_NEXT_KEY w_RECORD w_IMPLICIT w_GAP w_INSERT_INTENTION h0 n0 _ T11.heap _
        rw [e11]
        exact ⟨(by rw [own_f0, if_pos hc1, if_pos hc2]), N12⟩
    ·
      by_cases hc3 : ((p2 &&& (2147483647 : Int32)) - ((p2 &&& (2147483647 : Int32)) / (7 : Int32)) * (7 : Int32)) = (1 : Int32)
      ·
        have k13 : ∀ t, Steps p.tables e below (s₁.setTop (mkF m 15 #[.val (.int p1), .val (.int p2), .val (.int (0 : Int32)), .unset, .unset, .unset] [(.int (1 : Int32))])) t → Steps p.tables e below (s₁.setTop (entryFrame m #[(.int p1), (.int p2)] maxLocals)) t := by
          intro t kt
          refine k3 t ?_
          rw [hc3]
          exact kt
        obtain ⟨v14, _, ⟨T14, L14, k14, n14⟩, -, X14, ⟨Lc14, hQ14, l14, y14, z14⟩, st14⟩ := Jvm.LawKit.callS X0 hx (y := (⟨"com/example/kerb/kerb/txn/LockKindCoversPinLaw", "pick", "(I)Lcom/example/kerb/kerb/txn/LockKind;"⟩ : MethodName)) hown (mvT hZ (hw _ (List.mem_of_getElem? (i := 1) rfl))) (mvT hZ (hw _ (List.mem_of_getElem? (i := 2) rfl))) (mvT hZ (hw _ (List.mem_of_getElem? (i := 3) rfl))) (mvT hZ (hw _ (List.mem_of_getElem? (i := 4) rfl))) (by decide) (backOf (W := 0) (own_rm1 l Z a0 hw [] (0 : Int32) w_INTENTION w_TABLE w_NEXT_KEY w_RECORD w_IMPLICIT w_GAP w_INSERT_INTENTION h0 n0 Z0 S_INTENTION S_TABLE S_NEXT_KEY S_RECORD S_IMPLICIT S_GAP S_INSERT_INTENTION) hZ (hw _ (List.mem_of_getElem? (i := 4) rfl)) (hw _ (List.mem_of_getElem? (i := 3) rfl)) (by decide) (by decide)) (g := (mkF m 17 #[.val (.int p1), .val (.int p2), .val (.int (0 : Int32)), .val (.int (1 : Int32)), .unset, .unset] [(.int (0 : Int32))])) rfl (by rw [hml]; rfl) (argsL := [(.int (0 : Int32))]) (rest := []) (lenOf own_pd93 rfl) rfl (by show 2 * 0 + _ ≤ _; exact Nat.le_of_eq rfl) (hb hby at_17) (fun _ _ => ⟨rfl, e0, (by decide : 0 + 0 ≤ _), (by decide : 0 + 0 ≤ _)⟩)
        dsimp only [Pt.U, Pt.locs, Pt.cells, Pt.slots] at X14 l14 y14 z14 st14 hQ14
        subst l14 y14 z14
        obtain ⟨hv14, N14q, e14⟩ := hQ14
        have N15 := Fr.app N0 N14q
        rw [show (own_f1 (0 : Int32) w_INTENTION w_TABLE w_NEXT_KEY w_RECORD w_IMPLICIT w_GAP w_INSERT_INTENTION) = w_INTENTION from by first | rfl | decide | simp [own_f1]] at hv14
        subst hv14
        obtain ⟨v16, _, ⟨T16, L16, k16, n16⟩, -, X16, ⟨Lc16, hQ16, l16, y16, z16⟩, st16⟩ := Jvm.LawKit.callS X14 hx (y := (⟨"com/example/kerb/kerb/txn/LockKindCoversPinLaw", "pick", "(I)Lcom/example/kerb/kerb/txn/LockKind;"⟩ : MethodName)) hown (mvT hZ (hw _ (List.mem_of_getElem? (i := 1) rfl))) (mvT hZ (hw _ (List.mem_of_getElem? (i := 2) rfl))) (mvT hZ (hw _ (List.mem_of_getElem? (i := 3) rfl))) (mvT hZ (hw _ (List.mem_of_getElem? (i := 4) rfl))) (by decide) (backOf (W := 0) (own_rm1 l Z a0 hw [] (1 : Int32) w_INTENTION w_TABLE w_NEXT_KEY w_RECORD w_IMPLICIT w_GAP w_INSERT_INTENTION h0 n0 Z0 S_INTENTION S_TABLE S_NEXT_KEY S_RECORD S_IMPLICIT S_GAP S_INSERT_INTENTION) hZ (hw _ (List.mem_of_getElem? (i := 4) rfl)) (hw _ (List.mem_of_getElem? (i := 3) rfl)) (by decide) (by decide)) (g := (mkF m 23 #[.val (.int p1), .val (.int p2), .val (.int (0 : Int32)), .val (.int (1 : Int32)), .val (.ref w_INTENTION), .unset] [(.int (1 : Int32))])) rfl (by rw [hml]; rfl) (argsL := [(.int (1 : Int32))]) (rest := []) (lenOf own_pd93 rfl) rfl (by show 2 * 0 + _ ≤ _; exact Nat.le_of_eq rfl) (hb hby at_23) (fun _ _ => ⟨rfl, e14, (by decide : 0 + 0 ≤ _), (by decide : 0 + 0 ≤ _)⟩)
        dsimp only [Pt.U, Pt.locs, Pt.cells, Pt.slots] at X16 l16 y16 z16 st16 hQ16
        subst l16 y16 z16
        obtain ⟨hv16, N16q, e16⟩ := hQ16
        have N17 := Fr.app N15 N16q
        rw [show (own_f1 (1 : Int32) w_INTENTION w_TABLE w_NEXT_KEY w_RECORD w_IMPLICIT w_GAP w_INSERT_INTENTION) = w_TABLE from by first | rfl | decide | simp [own_f1]] at hv16
        subst hv16
        obtain ⟨cq18, kq18, q18a, q18b, q18c⟩ := isOf hZ e16 E_w_INTENTION
        obtain ⟨v18, _, ⟨T18, L18, k18, n18⟩, -, X18, ⟨Lc18, hQ18, l18, y18, z18⟩, st18⟩ := X16.virtualBack hx (y := (⟨"com/example/kerb/kerb/txn/LockKind", "covers", "(Lcom/example/kerb/kerb/txn/LockKind;)Z"⟩ : MethodName)) (z := (⟨"com/example/kerb/kerb/txn/LockKind", "covers", "(Lcom/example/kerb/kerb/txn/LockKind;)Z"⟩ : MethodName)) hown (mvT hZ (hw _ (List.mem_of_getElem? (i := 10) rfl))) (mvT hZ (hw _ (List.mem_of_getElem? (i := 11) rfl))) (notFace_of_selects (args := #[]) (mvT hZ (hw _ (List.mem_of_getElem? (i := 13) rfl)))) (mvT hZ (hw _ (List.mem_of_getElem? (i := 13) rfl))) (mvT hZ (hw _ (List.mem_of_getElem? (i := 12) rfl))) (by decide) (backOf (W := 0) (own_rm2 l Z a0 hw [] w_INTENTION w_TABLE (0 : Int32) w_NEXT_KEY w_GAP w_RECORD w_IMPLICIT h0 n0 Z0 F_coversRecord_w_INTENTION S_NEXT_KEY S_GAP S_RECORD S_IMPLICIT) hZ (hw _ (List.mem_of_getElem? (i := 14) rfl)) (hw _ (List.mem_of_getElem? (i := 6) rfl)) (by decide) (by decide)) q18a q18c (g := (mkF m 32 #[.val (.int p1), .val (.int p2), .val (.int (0 : Int32)), .val (.int (1 : Int32)), .val (.ref w_INTENTION), .val (.ref w_TABLE)] [(.ref w_TABLE), (.ref w_INTENTION)])) rfl (by rw [hml]; rfl) (Steps.refl _) (argsL := [(.ref w_TABLE)]) (rest := []) (lenOf own_pd94 rfl) rfl (by show 2 * 0 + _ ≤ _; exact Nat.le_of_eq rfl) (hb hby at_32) (fun _ _ => ⟨rfl, e16, (by decide : 0 + 0 ≤ _), (by decide : 0 + 0 ≤ _)⟩)
        dsimp only [Pt.U, Pt.locs, Pt.cells, Pt.slots] at X18 l18 y18 z18 st18 hQ18
        subst l18 y18 z18
        obtain ⟨hv18, N18q, e18⟩ := hQ18
        have N19 := Fr.app N17 N18q
        rw [show (own_f2 w_INTENTION w_TABLE (0 : Int32) w_NEXT_KEY w_GAP w_RECORD w_IMPLICIT) = (0 : Int32) from by first | rfl | decide | simp [own_f2, ne_INTENTION_NEXT_KEY, ne_INTENTION_TABLE]] at hv18
        subst hv18
        obtain ⟨v20, _, ⟨T20, L20, k20, n20⟩, -, X20, ⟨Lc20, hQ20, l20, y20, z20⟩, st20⟩ := Jvm.LawKit.callS X18 hx (y := (⟨"com/example/kerb/kerb/txn/LockKindCoversPinLaw", "expected", "(II)Z"⟩ : MethodName)) hown (mvT hZ (hw _ (List.mem_of_getElem? (i := 19) rfl))) (mvT hZ (hw _ (List.mem_of_getElem? (i := 20) rfl))) (mvT hZ (hw _ (List.mem_of_getElem? (i := 3) rfl))) (mvT hZ (hw _ (List.mem_of_getElem? (i := 21) rfl))) (by decide) (backOf (W := 1) (own_rm3 l Z a0 hw [] (0 : Int32) (1 : Int32) h0 n0 Z0) hZ (hw _ (List.mem_of_getElem? (i := 21) rfl)) (hw _ (List.mem_of_getElem? (i := 3) rfl)) (by decide) (by decide)) (g := (mkF m 37 #[.val (.int p1), .val (.int p2), .val (.int (0 : Int32)), .val (.int (1 : Int32)), .val (.ref w_INTENTION), .val (.ref w_TABLE)] [(.int (1 : Int32)), (.int (0 : Int32)), (.int (0 : Int32))])) rfl (by rw [hml]; rfl) (argsL := [(.int (0 : Int32)), (.int (1 : Int32))]) (rest := [(.int (0 : Int32))]) (lenOf own_pd95 rfl) rfl (by show 2 * 0 + _ ≤ _; exact Nat.le_of_eq rfl) (hb hby at_37) (fun _ _ => ⟨rfl, e18, (by decide : 0 + 0 ≤ _), (by decide : 0 + 0 ≤ _)⟩)
        dsimp only [Pt.U, Pt.locs, Pt.cells, Pt.slots] at X20 l20 y20 z20 st20 hQ20
        subst l20 y20 z20
        obtain ⟨hv20, N20q, e20⟩ := hQ20
        have N21 := Fr.app N19 N20q
        rw [show (own_f3 (0 : Int32) (1 : Int32)) = (0 : Int32) from by first | rfl | decide | simp [own_f3]] at hv20
        subst hv20
        obtain ⟨fs, hr, hrun, hended, hW, hsame⟩ := X20.leave (v := some (.int (1 : Int32))) (fun h => by rw [Bd.returns] at h; cases h)
        refine ⟨_, _, k13 _ ?_, hrun, hended, _, _, rfl, ?_, ⟨_, rfl⟩, hW, hsame.mono (by decide) (by decide)⟩
        · show Steps p.tables e below (s₁.setTop (mkF m 15 #[.val (.int p1), .val (.int p2), .val (.int (0 : Int32)), .unset, .unset, .unset] [(.int (1 : Int32))])) _
          refine XS.istoreN X0.here hx rfl (hb hby at_15) rfl (l' := #[.val (.int p1), .val (.int p2), .val (.int (0 : Int32)), .val (.int (1 : Int32)), .unset, .unset]) rfl ?_
          show Steps p.tables e below (s₁.setTop (mkF m 16 #[.val (.int p1), .val (.int p2), .val (.int (0 : Int32)), .val (.int (1 : Int32)), .unset, .unset] [])) _
          refine XS.iloadN X0.here hx rfl (hb hby at_16) rfl ?_
          show Steps p.tables e below (s₁.setTop (mkF m 17 #[.val (.int p1), .val (.int p2), .val (.int (0 : Int32)), .val (.int (1 : Int32)), .unset, .unset] [(.int (0 : Int32))])) _
          refine st14 _ ?_
          show Steps p.tables e below (T14.setTop (mkF m 20 #[.val (.int p1), .val (.int p2), .val (.int (0 : Int32)), .val (.int (1 : Int32)), .unset, .unset] [(.ref w_INTENTION)])) _
          refine XS.astore X14.here hx rfl (hb hby at_20) rfl rfl (l' := #[.val (.int p1), .val (.int p2), .val (.int (0 : Int32)), .val (.int (1 : Int32)), .val (.ref w_INTENTION), .unset]) rfl ?_
          show Steps p.tables e below (T14.setTop (mkF m 22 #[.val (.int p1), .val (.int p2), .val (.int (0 : Int32)), .val (.int (1 : Int32)), .val (.ref w_INTENTION), .unset] [])) _
          refine XS.iloadN X14.here hx rfl (hb hby at_22) rfl ?_
          show Steps p.tables e below (T14.setTop (mkF m 23 #[.val (.int p1), .val (.int p2), .val (.int (0 : Int32)), .val (.int (1 : Int32)), .val (.ref w_INTENTION), .unset] [(.int (1 : Int32))])) _
          refine st16 _ ?_
          show Steps p.tables e below (T16.setTop (mkF m 26 #[.val (.int p1), .val (.int p2), .val (.int (0 : Int32)), .val (.int (1 : Int32)), .val (.ref w_INTENTION), .unset] [(.ref w_TABLE)])) _
          refine XS.astore X16.here hx rfl (hb hby at_26) rfl rfl (l' := #[.val (.int p1), .val (.int p2), .val (.int (0 : Int32)), .val (.int (1 : Int32)), .val (.ref w_INTENTION), .val (.ref w_TABLE)]) rfl ?_
          show Steps p.tables e below (T16.setTop (mkF m 28 #[.val (.int p1), .val (.int p2), .val (.int (0 : Int32)), .val (.int (1 : Int32)), .val (.ref w_INTENTION), .val (.ref w_TABLE)] [])) _
          refine XS.aload X16.here hx rfl (hb hby at_28) rfl rfl ?_
          show Steps p.tables e below (T16.setTop (mkF m 30 #[.val (.int p1), .val (.int p2), .val (.int (0 : Int32)), .val (.int (1 : Int32)), .val (.ref w_INTENTION), .val (.ref w_TABLE)] [(.ref w_INTENTION)])) _
          refine XS.aload X16.here hx rfl (hb hby at_30) rfl rfl ?_
          show Steps p.tables e below (T16.setTop (mkF m 32 #[.val (.int p1), .val (.int p2), .val (.int (0 : Int32)), .val (.int (1 : Int32)), .val (.ref w_INTENTION), .val (.ref w_TABLE)] [(.ref w_TABLE), (.ref w_INTENTION)])) _
          refine st18.trans ?_
          show Steps p.tables e below (T18.setTop (mkF m 35 #[.val (.int p1), .val (.int p2), .val (.int (0 : Int32)), .val (.int (1 : Int32)), .val (.ref w_INTENTION), .val (.ref w_TABLE)] [(.int (0 : Int32))])) _
          refine XS.iloadN X18.here hx rfl (hb hby at_35) rfl ?_
          show Steps p.tables e below (T18.setTop (mkF m 36 #[.val (.int p1), .val (.int p2), .val (.int (0 : Int32)), .val (.int (1 : Int32)), .val (.ref w_INTENTION), .val (.ref w_TABLE)] [(.int (0 : Int32)), (.int (0 : Int32))])) _
          refine XS.iloadN X18.here hx rfl (hb hby at_36) rfl ?_
          show Steps p.tables e below (T18.setTop (mkF m 37 #[.val (.int p1), .val (.int p2), .val (.int (0 : Int32)), .val (.int (1 : Int32)), .val (.ref w_INTENTION), .val (.ref w_TABLE)] [(.int (1 : Int32)), (.int (0 : Int32)), (.int (0 : Int32))])) _
          refine st20 _ ?_
          show Steps p.tables e below (T20.setTop (mkF m 40 #[.val (.int p1), .val (.int p2), .val (.int (0 : Int32)), .val (.int (1 : Int32)), .val (.ref w_INTENTION), .val (.ref w_TABLE)] [(.int (0 : Int32)), (.int (0 : Int32))])) _
          refine XS.icmpNo X20.here hx rfl (hb hby at_40) rfl (teq (by decide : (0 : Int32) = (0 : Int32))).2 ?_
          show Steps p.tables e below (T20.setTop (mkF m 43 #[.val (.int p1), .val (.int p2), .val (.int (0 : Int32)), .val (.int (1 : Int32)), .val (.ref w_INTENTION), .val (.ref w_TABLE)] [])) _
          refine XS.iconst X20.here hx rfl (hb hby at_43) ?_
          show Steps p.tables e below (T20.setTop (mkF m 44 #[.val (.int p1), .val (.int p2), .val (.int (0 : Int32)), .val (.int (1 : Int32)), .val (.ref w_INTENTION), .val (.ref w_TABLE)] [(.int (1 : Int32))])) _
          refine XS.goto X20.here hx rfl (pc0 := 44) (pc' := 48) rfl (hb hby at_44) (by decide) (by decide) ?_
          show Steps p.tables e below (T20.setTop (mkF m 48 #[.val (.int p1), .val (.int p2), .val (.int (0 : Int32)), .val (.int (1 : Int32)), .val (.ref w_INTENTION), .val (.ref w_TABLE)] [(.int (1 : Int32))])) _
          exact retN X20 hx (t := .boolean) Bd.returns (by simp) (hb hby at_48) hr
        · show own_Q0 Z p1 p2 w_INTENTION w_TABLE w_NEXT_KEY w_RECORD w_IMPLICIT w_GAP w_INSERT_INTENTION h0 n0 _ T20.heap _
          rw [e20]
          exact ⟨(by rw [own_f0, if_pos hc1, if_neg hc2, if_pos hc3]), N21⟩
      ·
        by_cases hc4 : ((p2 &&& (2147483647 : Int32)) - ((p2 &&& (2147483647 : Int32)) / (7 : Int32)) * (7 : Int32)) = (2 : Int32)
        ·
          have k22 : ∀ t, Steps p.tables e below (s₁.setTop (mkF m 15 #[.val (.int p1), .val (.int p2), .val (.int (0 : Int32)), .unset, .unset, .unset] [(.int (2 : Int32))])) t → Steps p.tables e below (s₁.setTop (entryFrame m #[(.int p1), (.int p2)] maxLocals)) t := by
            intro t kt
            refine k3 t ?_
            rw [hc4]
            exact kt
          obtain ⟨v23, _, ⟨T23, L23, k23, n23⟩, -, X23, ⟨Lc23, hQ23, l23, y23, z23⟩, st23⟩ := Jvm.LawKit.callS X0 hx (y := (⟨"com/example/kerb/kerb/txn/LockKindCoversPinLaw", "pick", "(I)Lcom/example/kerb/kerb/txn/LockKind;"⟩ : MethodName)) hown (mvT hZ (hw _ (List.mem_of_getElem? (i := 1) rfl))) (mvT hZ (hw _ (List.mem_of_getElem? (i := 2) rfl))) (mvT hZ (hw _ (List.mem_of_getElem? (i := 3) rfl))) (mvT hZ (hw _ (List.mem_of_getElem? (i := 4) rfl))) (by decide) (backOf (W := 0) (own_rm1 l Z a0 hw [] (0 : Int32) w_INTENTION w_TABLE w_NEXT_KEY w_RECORD w_IMPLICIT w_GAP w_INSERT_INTENTION h0 n0 Z0 S_INTENTION S_TABLE S_NEXT_KEY S_RECORD S_IMPLICIT S_GAP S_INSERT_INTENTION) hZ (hw _ (List.mem_of_getElem? (i := 4) rfl)) (hw _ (List.mem_of_getElem? (i := 3) rfl)) (by decide) (by decide)) (g := (mkF m 17 #[.val (.int p1), .val (.int p2), .val (.int (0 : Int32)), .val (.int (2 : Int32)), .unset, .unset] [(.int (0 : Int32))])) rfl (by rw [hml]; rfl) (argsL := [(.int (0 : Int32))]) (rest := []) (lenOf own_pd93 rfl) rfl (by show 2 * 0 + _ ≤ _; exact Nat.le_of_eq rfl) (hb hby at_17) (fun _ _ => ⟨rfl, e0, (by decide : 0 + 0 ≤ _), (by decide : 0 + 0 ≤ _)⟩)
          dsimp only [Pt.U, Pt.locs, Pt.cells, Pt.slots] at X23 l23 y23 z23 st23 hQ23
          subst l23 y23 z23
          obtain ⟨hv23, N23q, e23⟩ := hQ23
          have N24 := Fr.app N0 N23q
          rw [show (own_f1 (0 : Int32) w_INTENTION w_TABLE w_NEXT_KEY w_RECORD w_IMPLICIT w_GAP w_INSERT_INTENTION) = w_INTENTION from by first | rfl | decide | simp [own_f1]] at hv23
          subst hv23
          obtain ⟨v25, _, ⟨T25, L25, k25, n25⟩, -, X25, ⟨Lc25, hQ25, l25, y25, z25⟩, st25⟩ := Jvm.LawKit.callS X23 hx (y := (⟨"com/example/kerb/kerb/txn/LockKindCoversPinLaw", "pick", "(I)Lcom/example/kerb/kerb/txn/LockKind;"⟩ : MethodName)) hown (mvT hZ (hw _ (List.mem_of_getElem? (i := 1) rfl))) (mvT hZ (hw _ (List.mem_of_getElem? (i := 2) rfl))) (mvT hZ (hw _ (List.mem_of_getElem? (i := 3) rfl))) (mvT hZ (hw _ (List.mem_of_getElem? (i := 4) rfl))) (by decide) (backOf (W := 0) (own_rm1 l Z a0 hw [] (2 : Int32) w_INTENTION w_TABLE w_NEXT_KEY w_RECORD w_IMPLICIT w_GAP w_INSERT_INTENTION h0 n0 Z0 S_INTENTION S_TABLE S_NEXT_KEY S_RECORD S_IMPLICIT S_GAP S_INSERT_INTENTION) hZ (hw _ (List.mem_of_getElem? (i := 4) rfl)) (hw _ (List.mem_of_getElem? (i := 3) rfl)) (by decide) (by decide)) (g := (mkF m 23 #[.val (.int p1), .val (.int p2), .val (.int (0 : Int32)), .val (.int (2 : Int32)), .val (.ref w_INTENTION), .unset] [(.int (2 : Int32))])) rfl (by rw [hml]; rfl) (argsL := [(.int (2 : Int32))]) (rest := []) (lenOf own_pd93 rfl) rfl (by show 2 * 0 + _ ≤ _; exact Nat.le_of_eq rfl) (hb hby at_23) (fun _ _ => ⟨rfl, e23, (by decide : 0 + 0 ≤ _), (by decide : 0 + 0 ≤ _)⟩)
          dsimp only [Pt.U, Pt.locs, Pt.cells, Pt.slots] at X25 l25 y25 z25 st25 hQ25
          subst l25 y25 z25
          obtain ⟨hv25, N25q, e25⟩ := hQ25
          have N26 := Fr.app N24 N25q
          rw [show (own_f1 (2 : Int32) w_INTENTION w_TABLE w_NEXT_KEY w_RECORD w_IMPLICIT w_GAP w_INSERT_INTENTION) = w_NEXT_KEY from by first | rfl | decide | simp [own_f1]] at hv25
          subst hv25
          obtain ⟨cq27, kq27, q27a, q27b, q27c⟩ := isOf hZ e25 E_w_INTENTION
          obtain ⟨v27, _, ⟨T27, L27, k27, n27⟩, -, X27, ⟨Lc27, hQ27, l27, y27, z27⟩, st27⟩ := X25.virtualBack hx (y := (⟨"com/example/kerb/kerb/txn/LockKind", "covers", "(Lcom/example/kerb/kerb/txn/LockKind;)Z"⟩ : MethodName)) (z := (⟨"com/example/kerb/kerb/txn/LockKind", "covers", "(Lcom/example/kerb/kerb/txn/LockKind;)Z"⟩ : MethodName)) hown (mvT hZ (hw _ (List.mem_of_getElem? (i := 10) rfl))) (mvT hZ (hw _ (List.mem_of_getElem? (i := 11) rfl))) (notFace_of_selects (args := #[]) (mvT hZ (hw _ (List.mem_of_getElem? (i := 13) rfl)))) (mvT hZ (hw _ (List.mem_of_getElem? (i := 13) rfl))) (mvT hZ (hw _ (List.mem_of_getElem? (i := 12) rfl))) (by decide) (backOf (W := 0) (own_rm2 l Z a0 hw [] w_INTENTION w_NEXT_KEY (0 : Int32) w_NEXT_KEY w_GAP w_RECORD w_IMPLICIT h0 n0 Z0 F_coversRecord_w_INTENTION S_NEXT_KEY S_GAP S_RECORD S_IMPLICIT) hZ (hw _ (List.mem_of_getElem? (i := 14) rfl)) (hw _ (List.mem_of_getElem? (i := 6) rfl)) (by decide) (by decide)) q27a q27c (g := (mkF m 32 #[.val (.int p1), .val (.int p2), .val (.int (0 : Int32)), .val (.int (2 : Int32)), .val (.ref w_INTENTION), .val (.ref w_NEXT_KEY)] [(.ref w_NEXT_KEY), (.ref w_INTENTION)])) rfl (by rw [hml]; rfl) (Steps.refl _) (argsL := [(.ref w_NEXT_KEY)]) (rest := []) (lenOf own_pd94 rfl) rfl (by show 2 * 0 + _ ≤ _; exact Nat.le_of_eq rfl) (hb hby at_32) (fun _ _ => ⟨rfl, e25, (by decide : 0 + 0 ≤ _), (by decide : 0 + 0 ≤ _)⟩)
          dsimp only [Pt.U, Pt.locs, Pt.cells, Pt.slots] at X27 l27 y27 z27 st27 hQ27
          subst l27 y27 z27
          obtain ⟨hv27, N27q, e27⟩ := hQ27
          have N28 := Fr.app N26 N27q
          rw [show (own_f2 w_INTENTION w_NEXT_KEY (0 : Int32) w_NEXT_KEY w_GAP w_RECORD w_IMPLICIT) = (0 : Int32) from by first | rfl | decide | simp [own_f2, ne_INTENTION_NEXT_KEY]] at hv27
          subst hv27
          obtain ⟨v29, _, ⟨T29, L29, k29, n29⟩, -, X29, ⟨Lc29, hQ29, l29, y29, z29⟩, st29⟩ := Jvm.LawKit.callS X27 hx (y := (⟨"com/example/kerb/kerb/txn/LockKindCoversPinLaw", "expected", "(II)Z"⟩ : MethodName)) hown (mvT hZ (hw _ (List.mem_of_getElem? (i := 19) rfl))) (mvT hZ (hw _ (List.mem_of_getElem? (i := 20) rfl))) (mvT hZ (hw _ (List.mem_of_getElem? (i := 3) rfl))) (mvT hZ (hw _ (List.mem_of_getElem? (i := 21) rfl))) (by decide) (backOf (W := 1) (own_rm3 l Z a0 hw [] (0 : Int32) (2 : Int32) h0 n0 Z0) hZ (hw _ (List.mem_of_getElem? (i := 21) rfl)) (hw _ (List.mem_of_getElem? (i := 3) rfl)) (by decide) (by decide)) (g := (mkF m 37 #[.val (.int p1), .val (.int p2), .val (.int (0 : Int32)), .val (.int (2 : Int32)), .val (.ref w_INTENTION), .val (.ref w_NEXT_KEY)] [(.int (2 : Int32)), (.int (0 : Int32)), (.int (0 : Int32))])) rfl (by rw [hml]; rfl) (argsL := [(.int (0 : Int32)), (.int (2 : Int32))]) (rest := [(.int (0 : Int32))]) (lenOf own_pd95 rfl) rfl (by show 2 * 0 + _ ≤ _; exact Nat.le_of_eq rfl) (hb hby at_37) (fun _ _ => ⟨rfl, e27, (by decide : 0 + 0 ≤ _), (by decide : 0 + 0 ≤ _)⟩)
          dsimp only [Pt.U, Pt.locs, Pt.cells, Pt.slots] at X29 l29 y29 z29 st29 hQ29
          subst l29 y29 z29
          obtain ⟨hv29, N29q, e29⟩ := hQ29
          have N30 := Fr.app N28 N29q
          rw [show (own_f3 (0 : Int32) (2 : Int32)) = (0 : Int32) from by first | rfl | decide | simp [own_f3]] at hv29
          subst hv29
          obtain ⟨fs, hr, hrun, hended, hW, hsame⟩ := X29.leave (v := some (.int (1 : Int32))) (fun h => by rw [Bd.returns] at h; cases h)
          refine ⟨_, _, k22 _ ?_, hrun, hended, _, _, rfl, ?_, ⟨_, rfl⟩, hW, hsame.mono (by decide) (by decide)⟩
          · show Steps p.tables e below (s₁.setTop (mkF m 15 #[.val (.int p1), .val (.int p2), .val (.int (0 : Int32)), .unset, .unset, .unset] [(.int (2 : Int32))])) _
            refine XS.istoreN X0.here hx rfl (hb hby at_15) rfl (l' := #[.val (.int p1), .val (.int p2), .val (.int (0 : Int32)), .val (.int (2 : Int32)), .unset, .unset]) rfl ?_
            show Steps p.tables e below (s₁.setTop (mkF m 16 #[.val (.int p1), .val (.int p2), .val (.int (0 : Int32)), .val (.int (2 : Int32)), .unset, .unset] [])) _
            refine XS.iloadN X0.here hx rfl (hb hby at_16) rfl ?_
            show Steps p.tables e below (s₁.setTop (mkF m 17 #[.val (.int p1), .val (.int p2), .val (.int (0 : Int32)), .val (.int (2 : Int32)), .unset, .unset] [(.int (0 : Int32))])) _
            refine st23 _ ?_
            show Steps p.tables e below (T23.setTop (mkF m 20 #[.val (.int p1), .val (.int p2), .val (.int (0 : Int32)), .val (.int (2 : Int32)), .unset, .unset] [(.ref w_INTENTION)])) _
            refine XS.astore X23.here hx rfl (hb hby at_20) rfl rfl (l' := #[.val (.int p1), .val (.int p2), .val (.int (0 : Int32)), .val (.int (2 : Int32)), .val (.ref w_INTENTION), .unset]) rfl ?_
            show Steps p.tables e below (T23.setTop (mkF m 22 #[.val (.int p1), .val (.int p2), .val (.int (0 : Int32)), .val (.int (2 : Int32)), .val (.ref w_INTENTION), .unset] [])) _
            refine XS.iloadN X23.here hx rfl (hb hby at_22) rfl ?_
            show Steps p.tables e below (T23.setTop (mkF m 23 #[.val (.int p1), .val (.int p2), .val (.int (0 : Int32)), .val (.int (2 : Int32)), .val (.ref w_INTENTION), .unset] [(.int (2 : Int32))])) _
            refine st25 _ ?_
            show Steps p.tables e below (T25.setTop (mkF m 26 #[.val (.int p1), .val (.int p2), .val (.int (0 : Int32)), .val (.int (2 : Int32)), .val (.ref w_INTENTION), .unset] [(.ref w_NEXT_KEY)])) _
            refine XS.astore X25.here hx rfl (hb hby at_26) rfl rfl (l' := #[.val (.int p1), .val (.int p2), .val (.int (0 : Int32)), .val (.int (2 : Int32)), .val (.ref w_INTENTION), .val (.ref w_NEXT_KEY)]) rfl ?_
            show Steps p.tables e below (T25.setTop (mkF m 28 #[.val (.int p1), .val (.int p2), .val (.int (0 : Int32)), .val (.int (2 : Int32)), .val (.ref w_INTENTION), .val (.ref w_NEXT_KEY)] [])) _
            refine XS.aload X25.here hx rfl (hb hby at_28) rfl rfl ?_
            show Steps p.tables e below (T25.setTop (mkF m 30 #[.val (.int p1), .val (.int p2), .val (.int (0 : Int32)), .val (.int (2 : Int32)), .val (.ref w_INTENTION), .val (.ref w_NEXT_KEY)] [(.ref w_INTENTION)])) _
            refine XS.aload X25.here hx rfl (hb hby at_30) rfl rfl ?_
            show Steps p.tables e below (T25.setTop (mkF m 32 #[.val (.int p1), .val (.int p2), .val (.int (0 : Int32)), .val (.int (2 : Int32)), .val (.ref w_INTENTION), .val (.ref w_NEXT_KEY)] [(.ref w_NEXT_KEY), (.ref w_INTENTION)])) _
            refine st27.trans ?_
            show Steps p.tables e below (T27.setTop (mkF m 35 #[.val (.int p1), .val (.int p2), .val (.int (0 : Int32)), .val (.int (2 : Int32)), .val (.ref w_INTENTION), .val (.ref w_NEXT_KEY)] [(.int (0 : Int32))])) _
            refine XS.iloadN X27.here hx rfl (hb hby at_35) rfl ?_
            show Steps p.tables e below (T27.setTop (mkF m 36 #[.val (.int p1), .val (.int p2), .val (.int (0 : Int32)), .val (.int (2 : Int32)), .val (.ref w_INTENTION), .val (.ref w_NEXT_KEY)] [(.int (0 : Int32)), (.int (0 : Int32))])) _
            refine XS.iloadN X27.here hx rfl (hb hby at_36) rfl ?_
            show Steps p.tables e below (T27.setTop (mkF m 37 #[.val (.int p1), .val (.int p2), .val (.int (0 : Int32)), .val (.int (2 : Int32)), .val (.ref w_INTENTION), .val (.ref w_NEXT_KEY)] [(.int (2 : Int32)), (.int (0 : Int32)), (.int (0 : Int32))])) _
            refine st29 _ ?_
            show Steps p.tables e below (T29.setTop (mkF m 40 #[.val (.int p1), .val (.int p2), .val (.int (0 : Int32)), .val (.int (2 : Int32)), .val (.ref w_INTENTION), .val (.ref w_NEXT_KEY)] [(.int (0 : Int32)), (.int (0 : Int32))])) _
            refine XS.icmpNo X29.here hx rfl (hb hby at_40) rfl (teq (by decide : (0 : Int32) = (0 : Int32))).2 ?_
            show Steps p.tables e below (T29.setTop (mkF m 43 #[.val (.int p1), .val (.int p2), .val (.int (0 : Int32)), .val (.int (2 : Int32)), .val (.ref w_INTENTION), .val (.ref w_NEXT_KEY)] [])) _
            refine XS.iconst X29.here hx rfl (hb hby at_43) ?_
            show Steps p.tables e below (T29.setTop (mkF m 44 #[.val (.int p1), .val (.int p2), .val (.int (0 : Int32)), .val (.int (2 : Int32)), .val (.ref w_INTENTION), .val (.ref w_NEXT_KEY)] [(.int (1 : Int32))])) _
            refine XS.goto X29.here hx rfl (pc0 := 44) (pc' := 48) rfl (hb hby at_44) (by decide) (by decide) ?_
            show Steps p.tables e below (T29.setTop (mkF m 48 #[.val (.int p1), .val (.int p2), .val (.int (0 : Int32)), .val (.int (2 : Int32)), .val (.ref w_INTENTION), .val (.ref w_NEXT_KEY)] [(.int (1 : Int32))])) _
            exact retN X29 hx (t := .boolean) Bd.returns (by simp) (hb hby at_48) hr
          · show own_Q0 Z p1 p2 w_INTENTION w_TABLE w_NEXT_KEY w_RECORD w_IMPLICIT w_GAP w_INSERT_INTENTION h0 n0 _ T29.heap _
            rw [e29]
            exact ⟨(by rw [own_f0, if_pos hc1, if_neg hc2, if_neg hc3, if_pos hc4]), N30⟩
        ·
          by_cases hc5 : ((p2 &&& (2147483647 : Int32)) - ((p2 &&& (2147483647 : Int32)) / (7 : Int32)) * (7 : Int32)) = (3 : Int32)
          ·
            have k31 : ∀ t, Steps p.tables e below (s₁.setTop (mkF m 15 #[.val (.int p1), .val (.int p2), .val (.int (0 : Int32)), .unset, .unset, .unset] [(.int (3 : Int32))])) t → Steps p.tables e below (s₁.setTop (entryFrame m #[(.int p1), (.int p2)] maxLocals)) t := by
              intro t kt
              refine k3 t ?_
              rw [hc5]
              exact kt
            obtain ⟨v32, _, ⟨T32, L32, k32, n32⟩, -, X32, ⟨Lc32, hQ32, l32, y32, z32⟩, st32⟩ := Jvm.LawKit.callS X0 hx (y := (⟨"com/example/kerb/kerb/txn/LockKindCoversPinLaw", "pick", "(I)Lcom/example/kerb/kerb/txn/LockKind;"⟩ : MethodName)) hown (mvT hZ (hw _ (List.mem_of_getElem? (i := 1) rfl))) (mvT hZ (hw _ (List.mem_of_getElem? (i := 2) rfl))) (mvT hZ (hw _ (List.mem_of_getElem? (i := 3) rfl))) (mvT hZ (hw _ (List.mem_of_getElem? (i := 4) rfl))) (by decide) (backOf (W := 0) (own_rm1 l Z a0 hw [] (0 : Int32) w_INTENTION w_TABLE w_NEXT_KEY w_RECORD w_IMPLICIT w_GAP w_INSERT_INTENTION h0 n0 Z0 S_INTENTION S_TABLE S_NEXT_KEY S_RECORD S_IMPLICIT S_GAP S_INSERT_INTENTION) hZ (hw _ (List.mem_of_getElem? (i := 4) rfl)) (hw _ (List.mem_of_getElem? (i := 3) rfl)) (by decide) (by decide)) (g := (mkF m 17 #[.val (.int p1), .val (.int p2), .val (.int (0 : Int32)), .val (.int (3 : Int32)), .unset, .unset] [(.int (0 : Int32))])) rfl (by rw [hml]; rfl) (argsL := [(.int (0 : Int32))]) (rest := []) (lenOf own_pd93 rfl) rfl (by show 2 * 0 + _ ≤ _; exact Nat.le_of_eq rfl) (hb hby at_17) (fun _ _ => ⟨rfl, e0, (by decide : 0 + 0 ≤ _), (by decide : 0 + 0 ≤ _)⟩)
            dsimp only [Pt.U, Pt.locs, Pt.cells, Pt.slots] at X32 l32 y32 z32 st32 hQ32
            subst l32 y32 z32
            obtain ⟨hv32, N32q, e32⟩ := hQ32
            have N33 := Fr.app N0 N32q
            rw [show (own_f1 (0 : Int32) w_INTENTION w_TABLE w_NEXT_KEY w_RECORD w_IMPLICIT w_GAP w_INSERT_INTENTION) = w_INTENTION from by first | rfl | decide | simp [own_f1]] at hv32
            subst hv32
            obtain ⟨v34, _, ⟨T34, L34, k34, n34⟩, -, X34, ⟨Lc34, hQ34, l34, y34, z34⟩, st34⟩ := Jvm.LawKit.callS X32 hx (y := (⟨"com/example/kerb/kerb/txn/LockKindCoversPinLaw", "pick", "(I)Lcom/example/kerb/kerb/txn/LockKind;"⟩ : MethodName)) hown (mvT hZ (hw _ (List.mem_of_getElem? (i := 1) rfl))) (mvT hZ (hw _ (List.mem_of_getElem? (i := 2) rfl))) (mvT hZ (hw _ (List.mem_of_getElem? (i := 3) rfl))) (mvT hZ (hw _ (List.mem_of_getElem? (i := 4) rfl))) (by decide) (backOf (W := 0) (own_rm1 l Z a0 hw [] (3 : Int32) w_INTENTION w_TABLE w_NEXT_KEY w_RECORD w_IMPLICIT w_GAP w_INSERT_INTENTION h0 n0 Z0 S_INTENTION S_TABLE S_NEXT_KEY S_RECORD S_IMPLICIT S_GAP S_INSERT_INTENTION) hZ (hw _ (List.mem_of_getElem? (i := 4) rfl)) (hw _ (List.mem_of_getElem? (i := 3) rfl)) (by decide) (by decide)) (g := (mkF m 23 #[.val (.int p1), .val (.int p2), .val (.int (0 : Int32)), .val (.int (3 : Int32)), .val (.ref w_INTENTION), .unset] [(.int (3 : Int32))])) rfl (by rw [hml]; rfl) (argsL := [(.int (3 : Int32))]) (rest := []) (lenOf own_pd93 rfl) rfl (by show 2 * 0 + _ ≤ _; exact Nat.le_of_eq rfl) (hb hby at_23) (fun _ _ => ⟨rfl, e32, (by decide : 0 + 0 ≤ _), (by decide : 0 + 0 ≤ _)⟩)
            dsimp only [Pt.U, Pt.locs, Pt.cells, Pt.slots] at X34 l34 y34 z34 st34 hQ34
            subst l34 y34 z34
            obtain ⟨hv34, N34q, e34⟩ := hQ34
            have N35 := Fr.app N33 N34q
            rw [show (own_f1 (3 : Int32) w_INTENTION w_TABLE w_NEXT_KEY w_RECORD w_IMPLICIT w_GAP w_INSERT_INTENTION) = w_RECORD from by first | rfl | decide | simp [own_f1]] at hv34
            subst hv34
            obtain ⟨cq36, kq36, q36a, q36b, q36c⟩ := isOf hZ e34 E_w_INTENTION
            obtain ⟨v36, _, ⟨T36, L36, k36, n36⟩, -, X36, ⟨Lc36, hQ36, l36, y36, z36⟩, st36⟩ := X34.virtualBack hx (y := (⟨"com/example/kerb/kerb/txn/LockKind", "covers", "(Lcom/example/kerb/kerb/txn/LockKind;)Z"⟩ : MethodName)) (z := (⟨"com/example/kerb/kerb/txn/LockKind", "covers", "(Lcom/example/kerb/kerb/txn/LockKind;)Z"⟩ : MethodName)) hown (mvT hZ (hw _ (List.mem_of_getElem? (i := 10) rfl))) (mvT hZ (hw _ (List.mem_of_getElem? (i := 11) rfl))) (notFace_of_selects (args := #[]) (mvT hZ (hw _ (List.mem_of_getElem? (i := 13) rfl)))) (mvT hZ (hw _ (List.mem_of_getElem? (i := 13) rfl))) (mvT hZ (hw _ (List.mem_of_getElem? (i := 12) rfl))) (by decide) (backOf (W := 0) (own_rm2 l Z a0 hw [] w_INTENTION w_RECORD (0 : Int32) w_NEXT_KEY w_GAP w_RECORD w_IMPLICIT h0 n0 Z0 F_coversRecord_w_INTENTION S_NEXT_KEY S_GAP S_RECORD S_IMPLICIT) hZ (hw _ (List.mem_of_getElem? (i := 14) rfl)) (hw _ (List.mem_of_getElem? (i := 6) rfl)) (by decide) (by decide)) q36a q36c (g := (mkF m 32 #[.val (.int p1), .val (.int p2), .val (.int (0 : Int32)), .val (.int (3 : Int32)), .val (.ref w_INTENTION), .val (.ref w_RECORD)] [(.ref w_RECORD), (.ref w_INTENTION)])) rfl (by rw [hml]; rfl) (Steps.refl _) (argsL := [(.ref w_RECORD)]) (rest := []) (lenOf own_pd94 rfl) rfl (by show 2 * 0 + _ ≤ _; exact Nat.le_of_eq rfl) (hb hby at_32) (fun _ _ => ⟨rfl, e34, (by decide : 0 + 0 ≤ _), (by decide : 0 + 0 ≤ _)⟩)
            dsimp only [Pt.U, Pt.locs, Pt.cells, Pt.slots] at X36 l36 y36 z36 st36 hQ36
            subst l36 y36 z36
            obtain ⟨hv36, N36q, e36⟩ := hQ36
            have N37 := Fr.app N35 N36q
            rw [show (own_f2 w_INTENTION w_RECORD (0 : Int32) w_NEXT_KEY w_GAP w_RECORD w_IMPLICIT) = (0 : Int32) from by first | rfl | decide | simp [own_f2, ne_INTENTION_NEXT_KEY, ne_INTENTION_RECORD]] at hv36
            subst hv36
            obtain ⟨v38, _, ⟨T38, L38, k38, n38⟩, -, X38, ⟨Lc38, hQ38, l38, y38, z38⟩, st38⟩ := Jvm.LawKit.callS X36 hx (y := (⟨"com/example/kerb/kerb/txn/LockKindCoversPinLaw", "expected", "(II)Z"⟩ : MethodName)) hown (mvT hZ (hw _ (List.mem_of_getElem? (i := 19) rfl))) (mvT hZ (hw _ (List.mem_of_getElem? (i := 20) rfl))) (mvT hZ (hw _ (List.mem_of_getElem? (i := 3) rfl))) (mvT hZ (hw _ (List.mem_of_getElem? (i := 21) rfl))) (by decide) (backOf (W := 1) (own_rm3 l Z a0 hw [] (0 : Int32) (3 : Int32) h0 n0 Z0) hZ (hw _ (List.mem_of_getElem? (i := 21) rfl)) (hw _ (List.mem_of_getElem? (i := 3) rfl)) (by decide) (by decide)) (g := (mkF m 37 #[.val (.int p1), .val (.int p2), .val (.int (0 : Int32)), .val (.int (3 : Int32)), .val (.ref w_INTENTION), .val (.ref w_RECORD)] [(.int (3 : Int32)), (.int (0 : Int32)), (.int (0 : Int32))])) rfl (by rw [hml]; rfl) (argsL := [(.int (0 : Int32)), (.int (3 : Int32))]) (rest := [(.int (0 : Int32))]) (lenOf own_pd95 rfl) rfl (by show 2 * 0 + _ ≤ _; exact Nat.le_of_eq rfl) (hb hby at_37) (fun _ _ => ⟨rfl, e36, (by decide : 0 + 0 ≤ _), (by decide : 0 + 0 ≤ _)⟩)
            dsimp only [Pt.U, Pt.locs, Pt.cells, Pt.slots] at X38 l38 y38 z38 st38 hQ38
            subst l38 y38 z38
            obtain ⟨hv38, N38q, e38⟩ := hQ38
            have N39 := Fr.app N37 N38q
            rw [show (own_f3 (0 : Int32) (3 : Int32)) = (0 : Int32) from by first | rfl | decide | simp [own_f3]] at hv38
            subst hv38
            obtain ⟨fs, hr, hrun, hended, hW, hsame⟩ := X38.leave (v := some (.int (1 : Int32))) (fun h => by rw [Bd.returns] at h; cases h)
            refine ⟨_, _, k31 _ ?_, hrun, hended, _, _, rfl, ?_, ⟨_, rfl⟩, hW, hsame.mono (by decide) (by decide)⟩
            · show Steps p.tables e below (s₁.setTop (mkF m 15 #[.val (.int p1), .val (.int p2), .val (.int (0 : Int32)), .unset, .unset, .unset] [(.int (3 : Int32))])) _
              refine XS.istoreN X0.here hx rfl (hb hby at_15) rfl (l' := #[.val (.int p1), .val (.int p2), .val (.int (0 : Int32)), .val (.int (3 : Int32)), .unset, .unset]) rfl ?_
              show Steps p.tables e below (s₁.setTop (mkF m 16 #[.val (.int p1), .val (.int p2), .val (.int (0 : Int32)), .val (.int (3 : Int32)), .unset, .unset] [])) _
              refine XS.iloadN X0.here hx rfl (hb hby at_16) rfl ?_
              show Steps p.tables e below (s₁.setTop (mkF m 17 #[.val (.int p1), .val (.int p2), .val (.int (0 : Int32)), .val (.int (3 : Int32)), .unset, .unset] [(.int (0 : Int32))])) _
              refine st32 _ ?_
              show Steps p.tables e below (T32.setTop (mkF m 20 #[.val (.int p1), .val (.int p2), .val (.int (0 : Int32)), .val (.int (3 : Int32)), .unset, .unset] [(.ref w_INTENTION)])) _
              refine XS.astore X32.here hx rfl (hb hby at_20) rfl rfl (l' := #[.val (.int p1), .val (.int p2), .val (.int (0 : Int32)), .val (.int (3 : Int32)), .val (.ref w_INTENTION), .unset]) rfl ?_
              show Steps p.tables e below (T32.setTop (mkF m 22 #[.val (.int p1), .val (.int p2), .val (.int (0 : Int32)), .val (.int (3 : Int32)), .val (.ref w_INTENTION), .unset] [])) _
              refine XS.iloadN X32.here hx rfl (hb hby at_22) rfl ?_
              show Steps p.tables e below (T32.setTop (mkF m 23 #[.val (.int p1), .val (.int p2), .val (.int (0 : Int32)), .val (.int (3 : Int32)), .val (.ref w_INTENTION), .unset] [(.int (3 : Int32))])) _
              refine st34 _ ?_
              show Steps p.tables e below (T34.setTop (mkF m 26 #[.val (.int p1), .val (.int p2), .val (.int (0 : Int32)), .val (.int (3 : Int32)), .val (.ref w_INTENTION), .unset] [(.ref w_RECORD)])) _
              refine XS.astore X34.here hx rfl (hb hby at_26) rfl rfl (l' := #[.val (.int p1), .val (.int p2), .val (.int (0 : Int32)), .val (.int (3 : Int32)), .val (.ref w_INTENTION), .val (.ref w_RECORD)]) rfl ?_
              show Steps p.tables e below (T34.setTop (mkF m 28 #[.val (.int p1), .val (.int p2), .val (.int (0 : Int32)), .val (.int (3 : Int32)), .val (.ref w_INTENTION), .val (.ref w_RECORD)] [])) _
              refine XS.aload X34.here hx rfl (hb hby at_28) rfl rfl ?_
              show Steps p.tables e below (T34.setTop (mkF m 30 #[.val (.int p1), .val (.int p2), .val (.int (0 : Int32)), .val (.int (3 : Int32)), .val (.ref w_INTENTION), .val (.ref w_RECORD)] [(.ref w_INTENTION)])) _
              refine XS.aload X34.here hx rfl (hb hby at_30) rfl rfl ?_
              show Steps p.tables e below (T34.setTop (mkF m 32 #[.val (.int p1), .val (.int p2), .val (.int (0 : Int32)), .val (.int (3 : Int32)), .val (.ref w_INTENTION), .val (.ref w_RECORD)] [(.ref w_RECORD), (.ref w_INTENTION)])) _
              refine st36.trans ?_
              show Steps p.tables e below (T36.setTop (mkF m 35 #[.val (.int p1), .val (.int p2), .val (.int (0 : Int32)), .val (.int (3 : Int32)), .val (.ref w_INTENTION), .val (.ref w_RECORD)] [(.int (0 : Int32))])) _
              refine XS.iloadN X36.here hx rfl (hb hby at_35) rfl ?_
              show Steps p.tables e below (T36.setTop (mkF m 36 #[.val (.int p1), .val (.int p2), .val (.int (0 : Int32)), .val (.int (3 : Int32)), .val (.ref w_INTENTION), .val (.ref w_RECORD)] [(.int (0 : Int32)), (.int (0 : Int32))])) _
              refine XS.iloadN X36.here hx rfl (hb hby at_36) rfl ?_
              show Steps p.tables e below (T36.setTop (mkF m 37 #[.val (.int p1), .val (.int p2), .val (.int (0 : Int32)), .val (.int (3 : Int32)), .val (.ref w_INTENTION), .val (.ref w_RECORD)] [(.int (3 : Int32)), (.int (0 : Int32)), (.int (0 : Int32))])) _
              refine st38 _ ?_
              show Steps p.tables e below (T38.setTop (mkF m 40 #[.val (.int p1), .val (.int p2), .val (.int (0 : Int32)), .val (.int (3 : Int32)), .val (.ref w_INTENTION), .val (.ref w_RECORD)] [(.int (0 : Int32)), (.int (0 : Int32))])) _
              refine XS.icmpNo X38.here hx rfl (hb hby at_40) rfl (teq (by decide : (0 : Int32) = (0 : Int32))).2 ?_
              show Steps p.tables e below (T38.setTop (mkF m 43 #[.val (.int p1), .val (.int p2), .val (.int (0 : Int32)), .val (.int (3 : Int32)), .val (.ref w_INTENTION), .val (.ref w_RECORD)] [])) _
              refine XS.iconst X38.here hx rfl (hb hby at_43) ?_
              show Steps p.tables e below (T38.setTop (mkF m 44 #[.val (.int p1), .val (.int p2), .val (.int (0 : Int32)), .val (.int (3 : Int32)), .val (.ref w_INTENTION), .val (.ref w_RECORD)] [(.int (1 : Int32))])) _
              refine XS.goto X38.here hx rfl (pc0 := 44) (pc' := 48) rfl (hb hby at_44) (by decide) (by decide) ?_
              show Steps p.tables e below (T38.setTop (mkF m 48 #[.val (.int p1), .val (.int p2), .val (.int (0 : Int32)), .val (.int (3 : Int32)), .val (.ref w_INTENTION), .val (.ref w_RECORD)] [(.int (1 : Int32))])) _
              exact retN X38 hx (t := .boolean) Bd.returns (by simp) (hb hby at_48) hr
            · show own_Q0 Z p1 p2 w_INTENTION w_TABLE w_NEXT_KEY w_RECORD w_IMPLICIT w_GAP w_INSERT_INTENTION h0 n0 _ T38.heap _
              rw [e38]
              exact ⟨(by rw [own_f0, if_pos hc1, if_neg hc2, if_neg hc3, if_neg hc4, if_pos hc5]), N39⟩
          ·
            by_cases hc6 : ((p2 &&& (2147483647 : Int32)) - ((p2 &&& (2147483647 : Int32)) / (7 : Int32)) * (7 : Int32)) = (4 : Int32)
            ·
              have k40 : ∀ t, Steps p.tables e below (s₁.setTop (mkF m 15 #[.val (.int p1), .val (.int p2), .val (.int (0 : Int32)), .unset, .unset, .unset] [(.int (4 : Int32))])) t → Steps p.tables e below (s₁.setTop (entryFrame m #[(.int p1), (.int p2)] maxLocals)) t := by
                intro t kt
                refine k3 t ?_
                rw [hc6]
                exact kt
              obtain ⟨v41, _, ⟨T41, L41, k41, n41⟩, -, X41, ⟨Lc41, hQ41, l41, y41, z41⟩, st41⟩ := Jvm.LawKit.callS X0 hx (y := (⟨"com/example/kerb/kerb/txn/LockKindCoversPinLaw", "pick", "(I)Lcom/example/kerb/kerb/txn/LockKind;"⟩ : MethodName)) hown (mvT hZ (hw _ (List.mem_of_getElem? (i := 1) rfl))) (mvT hZ (hw _ (List.mem_of_getElem? (i := 2) rfl))) (mvT hZ (hw _ (List.mem_of_getElem? (i := 3) rfl))) (mvT hZ (hw _ (List.mem_of_getElem? (i := 4) rfl))) (by decide) (backOf (W := 0) (own_rm1 l Z a0 hw [] (0 : Int32) w_INTENTION w_TABLE w_NEXT_KEY w_RECORD w_IMPLICIT w_GAP w_INSERT_INTENTION h0 n0 Z0 S_INTENTION S_TABLE S_NEXT_KEY S_RECORD S_IMPLICIT S_GAP S_INSERT_INTENTION) hZ (hw _ (List.mem_of_getElem? (i := 4) rfl)) (hw _ (List.mem_of_getElem? (i := 3) rfl)) (by decide) (by decide)) (g := (mkF m 17 #[.val (.int p1), .val (.int p2), .val (.int (0 : Int32)), .val (.int (4 : Int32)), .unset, .unset] [(.int (0 : Int32))])) rfl (by rw [hml]; rfl) (argsL := [(.int (0 : Int32))]) (rest := []) (lenOf own_pd93 rfl) rfl (by show 2 * 0 + _ ≤ _; exact Nat.le_of_eq rfl) (hb hby at_17) (fun _ _ => ⟨rfl, e0, (by decide : 0 + 0 ≤ _), (by decide : 0 + 0 ≤ _)⟩)
              dsimp only [Pt.U, Pt.locs, Pt.cells, Pt.slots] at X41 l41 y41 z41 st41 hQ41
              subst l41 y41 z41
              obtain ⟨hv41, N41q, e41⟩ := hQ41
              have N42 := Fr.app N0 N41q
              rw [show (own_f1 (0 : Int32) w_INTENTION w_TABLE w_NEXT_KEY w_RECORD w_IMPLICIT w_GAP w_INSERT_INTENTION) = w_INTENTION from by first | rfl | decide | simp [own_f1]] at hv41
              subst hv41
              obtain ⟨v43, _, ⟨T43, L43, k43, n43⟩, -, X43, ⟨Lc43, hQ43, l43, y43, z43⟩, st43⟩ := Jvm.LawKit.callS X41 hx (y := (⟨"com/example/kerb/kerb/txn/LockKindCoversPinLaw", "pick", "(I)Lcom/example/kerb/kerb/txn/LockKind;"⟩ : MethodName)) hown (mvT hZ (hw _ (List.mem_of_getElem? (i := 1) rfl))) (mvT hZ (hw _ (List.mem_of_getElem? (i := 2) rfl))) (mvT hZ (hw _ (List.mem_of_getElem? (i := 3) rfl))) (mvT hZ (hw _ (List.mem_of_getElem? (i := 4) rfl))) (by decide) (backOf (W := 0) (own_rm1 l Z a0 hw [] (4 : Int32) w_INTENTION w_TABLE w_NEXT_KEY w_RECORD w_IMPLICIT w_GAP w_INSERT_INTENTION h0 n0 Z0 S_INTENTION S_TABLE S_NEXT_KEY S_RECORD S_IMPLICIT S_GAP S_INSERT_INTENTION) hZ (hw _ (List.mem_of_getElem? (i := 4) rfl)) (hw _ (List.mem_of_getElem? (i := 3) rfl)) (by decide) (by decide)) (g := (mkF m 23 #[.val (.int p1), .val (.int p2), .val (.int (0 : Int32)), .val (.int (4 : Int32)), .val (.ref w_INTENTION), .unset] [(.int (4 : Int32))])) rfl (by rw [hml]; rfl) (argsL := [(.int (4 : Int32))]) (rest := []) (lenOf own_pd93 rfl) rfl (by show 2 * 0 + _ ≤ _; exact Nat.le_of_eq rfl) (hb hby at_23) (fun _ _ => ⟨rfl, e41, (by decide : 0 + 0 ≤ _), (by decide : 0 + 0 ≤ _)⟩)
              dsimp only [Pt.U, Pt.locs, Pt.cells, Pt.slots] at X43 l43 y43 z43 st43 hQ43
              subst l43 y43 z43
              obtain ⟨hv43, N43q, e43⟩ := hQ43
              have N44 := Fr.app N42 N43q
              rw [show (own_f1 (4 : Int32) w_INTENTION w_TABLE w_NEXT_KEY w_RECORD w_IMPLICIT w_GAP w_INSERT_INTENTION) = w_IMPLICIT from by first | rfl | decide | simp [own_f1]] at hv43
              subst hv43
              obtain ⟨cq45, kq45, q45a, q45b, q45c⟩ := isOf hZ e43 E_w_INTENTION
              obtain ⟨v45, _, ⟨T45, L45, k45, n45⟩, -, X45, ⟨Lc45, hQ45, l45, y45, z45⟩, st45⟩ := X43.virtualBack hx (y := (⟨"com/example/kerb/kerb/txn/LockKind", "covers", "(Lcom/example/kerb/kerb/txn/LockKind;)Z"⟩ : MethodName)) (z := (⟨"com/example/kerb/kerb/txn/LockKind", "covers", "(Lcom/example/kerb/kerb/txn/LockKind;)Z"⟩ : MethodName)) hown (mvT hZ (hw _ (List.mem_of_getElem? (i := 10) rfl))) (mvT hZ (hw _ (List.mem_of_getElem? (i := 11) rfl))) (notFace_of_selects (args := #[]) (mvT hZ (hw _ (List.mem_of_getElem? (i := 13) rfl)))) (mvT hZ (hw _ (List.mem_of_getElem? (i := 13) rfl))) (mvT hZ (hw _ (List.mem_of_getElem? (i := 12) rfl))) (by decide) (backOf (W := 0) (own_rm2 l Z a0 hw [] w_INTENTION w_IMPLICIT (0 : Int32) w_NEXT_KEY w_GAP w_RECORD w_IMPLICIT h0 n0 Z0 F_coversRecord_w_INTENTION S_NEXT_KEY S_GAP S_RECORD S_IMPLICIT) hZ (hw _ (List.mem_of_getElem? (i := 14) rfl)) (hw _ (List.mem_of_getElem? (i := 6) rfl)) (by decide) (by decide)) q45a q45c (g := (mkF m 32 #[.val (.int p1), .val (.int p2), .val (.int (0 : Int32)), .val (.int (4 : Int32)), .val (.ref w_INTENTION), .val (.ref w_IMPLICIT)] [(.ref w_IMPLICIT), (.ref w_INTENTION)])) rfl (by rw [hml]; rfl) (Steps.refl _) (argsL := [(.ref w_IMPLICIT)]) (rest := []) (lenOf own_pd94 rfl) rfl (by show 2 * 0 + _ ≤ _; exact Nat.le_of_eq rfl) (hb hby at_32) (fun _ _ => ⟨rfl, e43, (by decide : 0 + 0 ≤ _), (by decide : 0 + 0 ≤ _)⟩)
              dsimp only [Pt.U, Pt.locs, Pt.cells, Pt.slots] at X45 l45 y45 z45 st45 hQ45
              subst l45 y45 z45
              obtain ⟨hv45, N45q, e45⟩ := hQ45
              have N46 := Fr.app N44 N45q
              rw [show (own_f2 w_INTENTION w_IMPLICIT (0 : Int32) w_NEXT_KEY w_GAP w_RECORD w_IMPLICIT) = (0 : Int32) from by first | rfl | decide | simp [own_f2, ne_INTENTION_IMPLICIT, ne_INTENTION_NEXT_KEY]] at hv45
              subst hv45
              obtain ⟨v47, _, ⟨T47, L47, k47, n47⟩, -, X47, ⟨Lc47, hQ47, l47, y47, z47⟩, st47⟩ := Jvm.LawKit.callS X45 hx (y := (⟨"com/example/kerb/kerb/txn/LockKindCoversPinLaw", "expected", "(II)Z"⟩ : MethodName)) hown (mvT hZ (hw _ (List.mem_of_getElem? (i := 19) rfl))) (mvT hZ (hw _ (List.mem_of_getElem? (i := 20) rfl))) (mvT hZ (hw _ (List.mem_of_getElem? (i := 3) rfl))) (mvT hZ (hw _ (List.mem_of_getElem? (i := 21) rfl))) (by decide) (backOf (W := 1) (own_rm3 l Z a0 hw [] (0 : Int32) (4 : Int32) h0 n0 Z0) hZ (hw _ (List.mem_of_getElem? (i := 21) rfl)) (hw _ (List.mem_of_getElem? (i := 3) rfl)) (by decide) (by decide)) (g := (mkF m 37 #[.val (.int p1), .val (.int p2), .val (.int (0 : Int32)), .val (.int (4 : Int32)), .val (.ref w_INTENTION), .val (.ref w_IMPLICIT)] [(.int (4 : Int32)), (.int (0 : Int32)), (.int (0 : Int32))])) rfl (by rw [hml]; rfl) (argsL := [(.int (0 : Int32)), (.int (4 : Int32))]) (rest := [(.int (0 : Int32))]) (lenOf own_pd95 rfl) rfl (by show 2 * 0 + _ ≤ _; exact Nat.le_of_eq rfl) (hb hby at_37) (fun _ _ => ⟨rfl, e45, (by decide : 0 + 0 ≤ _), (by decide : 0 + 0 ≤ _)⟩)
              dsimp only [Pt.U, Pt.locs, Pt.cells, Pt.slots] at X47 l47 y47 z47 st47 hQ47
              subst l47 y47 z47
              obtain ⟨hv47, N47q, e47⟩ := hQ47
              have N48 := Fr.app N46 N47q
              rw [show (own_f3 (0 : Int32) (4 : Int32)) = (0 : Int32) from by first | rfl | decide | simp [own_f3]] at hv47
              subst hv47
              obtain ⟨fs, hr, hrun, hended, hW, hsame⟩ := X47.leave (v := some (.int (1 : Int32))) (fun h => by rw [Bd.returns] at h; cases h)
              refine ⟨_, _, k40 _ ?_, hrun, hended, _, _, rfl, ?_, ⟨_, rfl⟩, hW, hsame.mono (by decide) (by decide)⟩
              · show Steps p.tables e below (s₁.setTop (mkF m 15 #[.val (.int p1), .val (.int p2), .val (.int (0 : Int32)), .unset, .unset, .unset] [(.int (4 : Int32))])) _
                refine XS.istoreN X0.here hx rfl (hb hby at_15) rfl (l' := #[.val (.int p1), .val (.int p2), .val (.int (0 : Int32)), .val (.int (4 : Int32)), .unset, .unset]) rfl ?_
                show Steps p.tables e below (s₁.setTop (mkF m 16 #[.val (.int p1), .val (.int p2), .val (.int (0 : Int32)), .val (.int (4 : Int32)), .unset, .unset] [])) _
                refine XS.iloadN X0.here hx rfl (hb hby at_16) rfl ?_
                show Steps p.tables e below (s₁.setTop (mkF m 17 #[.val (.int p1), .val (.int p2), .val (.int (0 : Int32)), .val (.int (4 : Int32)), .unset, .unset] [(.int (0 : Int32))])) _
                refine st41 _ ?_
                show Steps p.tables e below (T41.setTop (mkF m 20 #[.val (.int p1), .val (.int p2), .val (.int (0 : Int32)), .val (.int (4 : Int32)), .unset, .unset] [(.ref w_INTENTION)])) _
                refine XS.astore X41.here hx rfl (hb hby at_20) rfl rfl (l' := #[.val (.int p1), .val (.int p2), .val (.int (0 : Int32)), .val (.int (4 : Int32)), .val (.ref w_INTENTION), .unset]) rfl ?_
                show Steps p.tables e below (T41.setTop (mkF m 22 #[.val (.int p1), .val (.int p2), .val (.int (0 : Int32)), .val (.int (4 : Int32)), .val (.ref w_INTENTION), .unset] [])) _
                refine XS.iloadN X41.here hx rfl (hb hby at_22) rfl ?_
                show Steps p.tables e below (T41.setTop (mkF m 23 #[.val (.int p1), .val (.int p2), .val (.int (0 : Int32)), .val (.int (4 : Int32)), .val (.ref w_INTENTION), .unset] [(.int (4 : Int32))])) _
                refine st43 _ ?_
                show Steps p.tables e below (T43.setTop (mkF m 26 #[.val (.int p1), .val (.int p2), .val (.int (0 : Int32)), .val (.int (4 : Int32)), .val (.ref w_INTENTION), .unset] [(.ref w_IMPLICIT)])) _
                refine XS.astore X43.here hx rfl (hb hby at_26) rfl rfl (l' := #[.val (.int p1), .val (.int p2), .val (.int (0 : Int32)), .val (.int (4 : Int32)), .val (.ref w_INTENTION), .val (.ref w_IMPLICIT)]) rfl ?_
                show Steps p.tables e below (T43.setTop (mkF m 28 #[.val (.int p1), .val (.int p2), .val (.int (0 : Int32)), .val (.int (4 : Int32)), .val (.ref w_INTENTION), .val (.ref w_IMPLICIT)] [])) _
                refine XS.aload X43.here hx rfl (hb hby at_28) rfl rfl ?_
                show Steps p.tables e below (T43.setTop (mkF m 30 #[.val (.int p1), .val (.int p2), .val (.int (0 : Int32)), .val (.int (4 : Int32)), .val (.ref w_INTENTION), .val (.ref w_IMPLICIT)] [(.ref w_INTENTION)])) _
                refine XS.aload X43.here hx rfl (hb hby at_30) rfl rfl ?_
                show Steps p.tables e below (T43.setTop (mkF m 32 #[.val (.int p1), .val (.int p2), .val (.int (0 : Int32)), .val (.int (4 : Int32)), .val (.ref w_INTENTION), .val (.ref w_IMPLICIT)] [(.ref w_IMPLICIT), (.ref w_INTENTION)])) _
                refine st45.trans ?_
                show Steps p.tables e below (T45.setTop (mkF m 35 #[.val (.int p1), .val (.int p2), .val (.int (0 : Int32)), .val (.int (4 : Int32)), .val (.ref w_INTENTION), .val (.ref w_IMPLICIT)] [(.int (0 : Int32))])) _
                refine XS.iloadN X45.here hx rfl (hb hby at_35) rfl ?_
                show Steps p.tables e below (T45.setTop (mkF m 36 #[.val (.int p1), .val (.int p2), .val (.int (0 : Int32)), .val (.int (4 : Int32)), .val (.ref w_INTENTION), .val (.ref w_IMPLICIT)] [(.int (0 : Int32)), (.int (0 : Int32))])) _
                refine XS.iloadN X45.here hx rfl (hb hby at_36) rfl ?_
                show Steps p.tables e below (T45.setTop (mkF m 37 #[.val (.int p1), .val (.int p2), .val (.int (0 : Int32)), .val (.int (4 : Int32)), .val (.ref w_INTENTION), .val (.ref w_IMPLICIT)] [(.int (4 : Int32)), (.int (0 : Int32)), (.int (0 : Int32))])) _
                refine st47 _ ?_
                show Steps p.tables e below (T47.setTop (mkF m 40 #[.val (.int p1), .val (.int p2), .val (.int (0 : Int32)), .val (.int (4 : Int32)), .val (.ref w_INTENTION), .val (.ref w_IMPLICIT)] [(.int (0 : Int32)), (.int (0 : Int32))])) _
                refine XS.icmpNo X47.here hx rfl (hb hby at_40) rfl (teq (by decide : (0 : Int32) = (0 : Int32))).2 ?_
                show Steps p.tables e below (T47.setTop (mkF m 43 #[.val (.int p1), .val (.int p2), .val (.int (0 : Int32)), .val (.int (4 : Int32)), .val (.ref w_INTENTION), .val (.ref w_IMPLICIT)] [])) _
                refine XS.iconst X47.here hx rfl (hb hby at_43) ?_
                show Steps p.tables e below (T47.setTop (mkF m 44 #[.val (.int p1), .val (.int p2), .val (.int (0 : Int32)), .val (.int (4 : Int32)), .val (.ref w_INTENTION), .val (.ref w_IMPLICIT)] [(.int (1 : Int32))])) _
                refine XS.goto X47.here hx rfl (pc0 := 44) (pc' := 48) rfl (hb hby at_44) (by decide) (by decide) ?_
                show Steps p.tables e below (T47.setTop (mkF m 48 #[.val (.int p1), .val (.int p2), .val (.int (0 : Int32)), .val (.int (4 : Int32)), .val (.ref w_INTENTION), .val (.ref w_IMPLICIT)] [(.int (1 : Int32))])) _
                exact retN X47 hx (t := .boolean) Bd.returns (by simp) (hb hby at_48) hr
              · show own_Q0 Z p1 p2 w_INTENTION w_TABLE w_NEXT_KEY w_RECORD w_IMPLICIT w_GAP w_INSERT_INTENTION h0 n0 _ T47.heap _
                rw [e47]
                exact ⟨(by rw [own_f0, if_pos hc1, if_neg hc2, if_neg hc3, if_neg hc4, if_neg hc5, if_pos hc6]), N48⟩
            ·
              by_cases hc7 : ((p2 &&& (2147483647 : Int32)) - ((p2 &&& (2147483647 : Int32)) / (7 : Int32)) * (7 : Int32)) = (5 : Int32)
              ·
                have k49 : ∀ t, Steps p.tables e below (s₁.setTop (mkF m 15 #[.val (.int p1), .val (.int p2), .val (.int (0 : Int32)), .unset, .unset, .unset] [(.int (5 : Int32))])) t → Steps p.tables e below (s₁.setTop (entryFrame m #[(.int p1), (.int p2)] maxLocals)) t := by
                  intro t kt
                  refine k3 t ?_
                  rw [hc7]
                  exact kt
                obtain ⟨v50, _, ⟨T50, L50, k50, n50⟩, -, X50, ⟨Lc50, hQ50, l50, y50, z50⟩, st50⟩ := Jvm.LawKit.callS X0 hx (y := (⟨"com/example/kerb/kerb/txn/LockKindCoversPinLaw", "pick", "(I)Lcom/example/kerb/kerb/txn/LockKind;"⟩ : MethodName)) hown (mvT hZ (hw _ (List.mem_of_getElem? (i := 1) rfl))) (mvT hZ (hw _ (List.mem_of_getElem? (i := 2) rfl))) (mvT hZ (hw _ (List.mem_of_getElem? (i := 3) rfl))) (mvT hZ (hw _ (List.mem_of_getElem? (i := 4) rfl))) (by decide) (backOf (W := 0) (own_rm1 l Z a0 hw [] (0 : Int32) w_INTENTION w_TABLE w_NEXT_KEY w_RECORD w_IMPLICIT w_GAP w_INSERT_INTENTION h0 n0 Z0 S_INTENTION S_TABLE S_NEXT_KEY S_RECORD S_IMPLICIT S_GAP S_INSERT_INTENTION) hZ (hw _ (List.mem_of_getElem? (i := 4) rfl)) (hw _ (List.mem_of_getElem? (i := 3) rfl)) (by decide) (by decide)) (g := (mkF m 17 #[.val (.int p1), .val (.int p2), .val (.int (0 : Int32)), .val (.int (5 : Int32)), .unset, .unset] [(.int (0 : Int32))])) rfl (by rw [hml]; rfl) (argsL := [(.int (0 : Int32))]) (rest := []) (lenOf own_pd93 rfl) rfl (by show 2 * 0 + _ ≤ _; exact Nat.le_of_eq rfl) (hb hby at_17) (fun _ _ => ⟨rfl, e0, (by decide : 0 + 0 ≤ _), (by decide : 0 + 0 ≤ _)⟩)
                dsimp only [Pt.U, Pt.locs, Pt.cells, Pt.slots] at X50 l50 y50 z50 st50 hQ50
                subst l50 y50 z50
                obtain ⟨hv50, N50q, e50⟩ := hQ50
                have N51 := Fr.app N0 N50q
                rw [show (own_f1 (0 : Int32) w_INTENTION w_TABLE w_NEXT_KEY w_RECORD w_IMPLICIT w_GAP w_INSERT_INTENTION) = w_INTENTION from by first | rfl | decide | simp [own_f1]] at hv50
                subst hv50
                obtain ⟨v52, _, ⟨T52, L52, k52, n52⟩, -, X52, ⟨Lc52, hQ52, l52, y52, z52⟩, st52⟩ := Jvm.LawKit.callS X50 hx (y := (⟨"com/example/kerb/kerb/txn/LockKindCoversPinLaw", "pick", "(I)Lcom/example/kerb/kerb/txn/LockKind;"⟩ : MethodName)) hown (mvT hZ (hw _ (List.mem_of_getElem? (i := 1) rfl))) (mvT hZ (hw _ (List.mem_of_getElem? (i := 2) rfl))) (mvT hZ (hw _ (List.mem_of_getElem? (i := 3) rfl))) (mvT hZ (hw _ (List.mem_of_getElem? (i := 4) rfl))) (by decide) (backOf (W := 0) (own_rm1 l Z a0 hw [] (5 : Int32) w_INTENTION w_TABLE w_NEXT_KEY w_RECORD w_IMPLICIT w_GAP w_INSERT_INTENTION h0 n0 Z0 S_INTENTION S_TABLE S_NEXT_KEY S_RECORD S_IMPLICIT S_GAP S_INSERT_INTENTION) hZ (hw _ (List.mem_of_getElem? (i := 4) rfl)) (hw _ (List.mem_of_getElem? (i := 3) rfl)) (by decide) (by decide)) (g := (mkF m 23 #[.val (.int p1), .val (.int p2), .val (.int (0 : Int32)), .val (.int (5 : Int32)), .val (.ref w_INTENTION), .unset] [(.int (5 : Int32))])) rfl (by rw [hml]; rfl) (argsL := [(.int (5 : Int32))]) (rest := []) (lenOf own_pd93 rfl) rfl (by show 2 * 0 + _ ≤ _; exact Nat.le_of_eq rfl) (hb hby at_23) (fun _ _ => ⟨rfl, e50, (by decide : 0 + 0 ≤ _), (by decide : 0 + 0 ≤ _)⟩)
                dsimp only [Pt.U, Pt.locs, Pt.cells, Pt.slots] at X52 l52 y52 z52 st52 hQ52
                subst l52 y52 z52
                obtain ⟨hv52, N52q, e52⟩ := hQ52
                have N53 := Fr.app N51 N52q
                rw [show (own_f1 (5 : Int32) w_INTENTION w_TABLE w_NEXT_KEY w_RECORD w_IMPLICIT w_GAP w_INSERT_INTENTION) = w_GAP from by first | rfl | decide | simp [own_f1]] at hv52
                subst hv52
                obtain ⟨cq54, kq54, q54a, q54b, q54c⟩ := isOf hZ e52 E_w_INTENTION
                obtain ⟨v54, _, ⟨T54, L54, k54, n54⟩, -, X54, ⟨Lc54, hQ54, l54, y54, z54⟩, st54⟩ := X52.virtualBack hx (y := (⟨"com/example/kerb/kerb/txn/LockKind", "covers", "(Lcom/example/kerb/kerb/txn/LockKind;)Z"⟩ : MethodName)) (z := (⟨"com/example/kerb/kerb/txn/LockKind", "covers", "(Lcom/example/kerb/kerb/txn/LockKind;)Z"⟩ : MethodName)) hown (mvT hZ (hw _ (List.mem_of_getElem? (i := 10) rfl))) (mvT hZ (hw _ (List.mem_of_getElem? (i := 11) rfl))) (notFace_of_selects (args := #[]) (mvT hZ (hw _ (List.mem_of_getElem? (i := 13) rfl)))) (mvT hZ (hw _ (List.mem_of_getElem? (i := 13) rfl))) (mvT hZ (hw _ (List.mem_of_getElem? (i := 12) rfl))) (by decide) (backOf (W := 0) (own_rm2 l Z a0 hw [] w_INTENTION w_GAP (0 : Int32) w_NEXT_KEY w_GAP w_RECORD w_IMPLICIT h0 n0 Z0 F_coversRecord_w_INTENTION S_NEXT_KEY S_GAP S_RECORD S_IMPLICIT) hZ (hw _ (List.mem_of_getElem? (i := 14) rfl)) (hw _ (List.mem_of_getElem? (i := 6) rfl)) (by decide) (by decide)) q54a q54c (g := (mkF m 32 #[.val (.int p1), .val (.int p2), .val (.int (0 : Int32)), .val (.int (5 : Int32)), .val (.ref w_INTENTION), .val (.ref w_GAP)] [(.ref w_GAP), (.ref w_INTENTION)])) rfl (by rw [hml]; rfl) (Steps.refl _) (argsL := [(.ref w_GAP)]) (rest := []) (lenOf own_pd94 rfl) rfl (by show 2 * 0 + _ ≤ _; exact Nat.le_of_eq rfl) (hb hby at_32) (fun _ _ => ⟨rfl, e52, (by decide : 0 + 0 ≤ _), (by decide : 0 + 0 ≤ _)⟩)
                dsimp only [Pt.U, Pt.locs, Pt.cells, Pt.slots] at X54 l54 y54 z54 st54 hQ54
                subst l54 y54 z54
                obtain ⟨hv54, N54q, e54⟩ := hQ54
                have N55 := Fr.app N53 N54q
                rw [show (own_f2 w_INTENTION w_GAP (0 : Int32) w_NEXT_KEY w_GAP w_RECORD w_IMPLICIT) = (0 : Int32) from by first | rfl | decide | simp [own_f2, ne_INTENTION_GAP, ne_INTENTION_NEXT_KEY]] at hv54
                subst hv54
                obtain ⟨v56, _, ⟨T56, L56, k56, n56⟩, -, X56, ⟨Lc56, hQ56, l56, y56, z56⟩, st56⟩ := Jvm.LawKit.callS X54 hx (y := (⟨"com/example/kerb/kerb/txn/LockKindCoversPinLaw", "expected", "(II)Z"⟩ : MethodName)) hown (mvT hZ (hw _ (List.mem_of_getElem? (i := 19) rfl))) (mvT hZ (hw _ (List.mem_of_getElem? (i := 20) rfl))) (mvT hZ (hw _ (List.mem_of_getElem? (i := 3) rfl))) (mvT hZ (hw _ (List.mem_of_getElem? (i := 21) rfl))) (by decide) (backOf (W := 1) (own_rm3 l Z a0 hw [] (0 : Int32) (5 : Int32) h0 n0 Z0) hZ (hw _ (List.mem_of_getElem? (i := 21) rfl)) (hw _ (List.mem_of_getElem? (i := 3) rfl)) (by decide) (by decide)) (g := (mkF m 37 #[.val (.int p1), .val (.int p2), .val (.int (0 : Int32)), .val (.int (5 : Int32)), .val (.ref w_INTENTION), .val (.ref w_GAP)] [(.int (5 : Int32)), (.int (0 : Int32)), (.int (0 : Int32))])) rfl (by rw [hml]; rfl) (argsL := [(.int (0 : Int32)), (.int (5 : Int32))]) (rest := [(.int (0 : Int32))]) (lenOf own_pd95 rfl) rfl (by show 2 * 0 + _ ≤ _; exact Nat.le_of_eq rfl) (hb hby at_37) (fun _ _ => ⟨rfl, e54, (by decide : 0 + 0 ≤ _), (by decide : 0 + 0 ≤ _)⟩)
                dsimp only [Pt.U, Pt.locs, Pt.cells, Pt.slots] at X56 l56 y56 z56 st56 hQ56
                subst l56 y56 z56
                obtain ⟨hv56, N56q, e56⟩ := hQ56
                have N57 := Fr.app N55 N56q
                rw [show (own_f3 (0 : Int32) (5 : Int32)) = (0 : Int32) from by first | rfl | decide | simp [own_f3]] at hv56
                subst hv56
                obtain ⟨fs, hr, hrun, hended, hW, hsame⟩ := X56.leave (v := some (.int (1 : Int32))) (fun h => by rw [Bd.returns] at h; cases h)
                refine ⟨_, _, k49 _ ?_, hrun, hended, _, _, rfl, ?_, ⟨_, rfl⟩, hW, hsame.mono (by decide) (by decide)⟩
                · show Steps p.tables e below (s₁.setTop (mkF m 15 #[.val (.int p1), .val (.int p2), .val (.int (0 : Int32)), .unset, .unset, .unset] [(.int (5 : Int32))])) _
                  refine XS.istoreN X0.here hx rfl (hb hby at_15) rfl (l' := #[.val (.int p1), .val (.int p2), .val (.int (0 : Int32)), .val (.int (5 : Int32)), .unset, .unset]) rfl ?_
                  show Steps p.tables e below (s₁.setTop (mkF m 16 #[.val (.int p1), .val (.int p2), .val (.int (0 : Int32)), .val (.int (5 : Int32)), .unset, .unset] [])) _
                  refine XS.iloadN X0.here hx rfl (hb hby at_16) rfl ?_
                  show Steps p.tables e below (s₁.setTop (mkF m 17 #[.val (.int p1), .val (.int p2), .val (.int (0 : Int32)), .val (.int (5 : Int32)), .unset, .unset] [(.int (0 : Int32))])) _
                  refine st50 _ ?_
                  show Steps p.tables e below (T50.setTop (mkF m 20 #[.val (.int p1), .val (.int p2), .val (.int (0 : Int32)), .val (.int (5 : Int32)), .unset, .unset] [(.ref w_INTENTION)])) _
                  refine XS.astore X50.here hx rfl (hb hby at_20) rfl rfl (l' := #[.val (.int p1), .val (.int p2), .val (.int (0 : Int32)), .val (.int (5 : Int32)), .val (.ref w_INTENTION), .unset]) rfl ?_
                  show Steps p.tables e below (T50.setTop (mkF m 22 #[.val (.int p1), .val (.int p2), .val (.int (0 : Int32)), .val (.int (5 : Int32)), .val (.ref w_INTENTION), .unset] [])) _
                  refine XS.iloadN X50.here hx rfl (hb hby at_22) rfl ?_
                  show Steps p.tables e below (T50.setTop (mkF m 23 #[.val (.int p1), .val (.int p2), .val (.int (0 : Int32)), .val (.int (5 : Int32)), .val (.ref w_INTENTION), .unset] [(.int (5 : Int32))])) _
                  refine st52 _ ?_
                  show Steps p.tables e below (T52.setTop (mkF m 26 #[.val (.int p1), .val (.int p2), .val (.int (0 : Int32)), .val (.int (5 : Int32)), .val (.ref w_INTENTION), .unset] [(.ref w_GAP)])) _
                  refine XS.astore X52.here hx rfl (hb hby at_26) rfl rfl (l' := #[.val (.int p1), .val (.int p2), .val (.int (0 : Int32)), .val (.int (5 : Int32)), .val (.ref w_INTENTION), .val (.ref w_GAP)]) rfl ?_
                  show Steps p.tables e below (T52.setTop (mkF m 28 #[.val (.int p1), .val (.int p2), .val (.int (0 : Int32)), .val (.int (5 : Int32)), .val (.ref w_INTENTION), .val (.ref w_GAP)] [])) _
                  refine XS.aload X52.here hx rfl (hb hby at_28) rfl rfl ?_
                  show Steps p.tables e below (T52.setTop (mkF m 30 #[.val (.int p1), .val (.int p2), .val (.int (0 : Int32)), .val (.int (5 : Int32)), .val (.ref w_INTENTION), .val (.ref w_GAP)] [(.ref w_INTENTION)])) _
                  refine XS.aload X52.here hx rfl (hb hby at_30) rfl rfl ?_
                  show Steps p.tables e below (T52.setTop (mkF m 32 #[.val (.int p1), .val (.int p2), .val (.int (0 : Int32)), .val (.int (5 : Int32)), .val (.ref w_INTENTION), .val (.ref w_GAP)] [(.ref w_GAP), (.ref w_INTENTION)])) _
                  refine st54.trans ?_
                  show Steps p.tables e below (T54.setTop (mkF m 35 #[.val (.int p1), .val (.int p2), .val (.int (0 : Int32)), .val (.int (5 : Int32)), .val (.ref w_INTENTION), .val (.ref w_GAP)] [(.int (0 : Int32))])) _
                  refine XS.iloadN X54.here hx rfl (hb hby at_35) rfl ?_
                  show Steps p.tables e below (T54.setTop (mkF m 36 #[.val (.int p1), .val (.int p2), .val (.int (0 : Int32)), .val (.int (5 : Int32)), .val (.ref w_INTENTION), .val (.ref w_GAP)] [(.int (0 : Int32)), (.int (0 : Int32))])) _
                  refine XS.iloadN X54.here hx rfl (hb hby at_36) rfl ?_
                  show Steps p.tables e below (T54.setTop (mkF m 37 #[.val (.int p1), .val (.int p2), .val (.int (0 : Int32)), .val (.int (5 : Int32)), .val (.ref w_INTENTION), .val (.ref w_GAP)] [(.int (5 : Int32)), (.int (0 : Int32)), (.int (0 : Int32))])) _
                  refine st56 _ ?_
                  show Steps p.tables e below (T56.setTop (mkF m 40 #[.val (.int p1), .val (.int p2), .val (.int (0 : Int32)), .val (.int (5 : Int32)), .val (.ref w_INTENTION), .val (.ref w_GAP)] [(.int (0 : Int32)), (.int (0 : Int32))])) _
                  refine XS.icmpNo X56.here hx rfl (hb hby at_40) rfl (teq (by decide : (0 : Int32) = (0 : Int32))).2 ?_
                  show Steps p.tables e below (T56.setTop (mkF m 43 #[.val (.int p1), .val (.int p2), .val (.int (0 : Int32)), .val (.int (5 : Int32)), .val (.ref w_INTENTION), .val (.ref w_GAP)] [])) _
                  refine XS.iconst X56.here hx rfl (hb hby at_43) ?_
                  show Steps p.tables e below (T56.setTop (mkF m 44 #[.val (.int p1), .val (.int p2), .val (.int (0 : Int32)), .val (.int (5 : Int32)), .val (.ref w_INTENTION), .val (.ref w_GAP)] [(.int (1 : Int32))])) _
                  refine XS.goto X56.here hx rfl (pc0 := 44) (pc' := 48) rfl (hb hby at_44) (by decide) (by decide) ?_
                  show Steps p.tables e below (T56.setTop (mkF m 48 #[.val (.int p1), .val (.int p2), .val (.int (0 : Int32)), .val (.int (5 : Int32)), .val (.ref w_INTENTION), .val (.ref w_GAP)] [(.int (1 : Int32))])) _
                  exact retN X56 hx (t := .boolean) Bd.returns (by simp) (hb hby at_48) hr
                · show own_Q0 Z p1 p2 w_INTENTION w_TABLE w_NEXT_KEY w_RECORD w_IMPLICIT w_GAP w_INSERT_INTENTION h0 n0 _ T56.heap _
                  rw [e56]
                  exact ⟨(by rw [own_f0, if_pos hc1, if_neg hc2, if_neg hc3, if_neg hc4, if_neg hc5, if_neg hc6, if_pos hc7]), N57⟩
              ·
                have hc8 : ((p2 &&& (2147483647 : Int32)) - ((p2 &&& (2147483647 : Int32)) / (7 : Int32)) * (7 : Int32)) = (6 : Int32) := own_exh p2 hc2 hc3 hc4 hc5 hc6 hc7
                have k58 : ∀ t, Steps p.tables e below (s₁.setTop (mkF m 15 #[.val (.int p1), .val (.int p2), .val (.int (0 : Int32)), .unset, .unset, .unset] [(.int (6 : Int32))])) t → Steps p.tables e below (s₁.setTop (entryFrame m #[(.int p1), (.int p2)] maxLocals)) t := by
                  intro t kt
                  refine k3 t ?_
                  rw [hc8]
                  exact kt
                obtain ⟨v59, _, ⟨T59, L59, k59, n59⟩, -, X59, ⟨Lc59, hQ59, l59, y59, z59⟩, st59⟩ := Jvm.LawKit.callS X0 hx (y := (⟨"com/example/kerb/kerb/txn/LockKindCoversPinLaw", "pick", "(I)Lcom/example/kerb/kerb/txn/LockKind;"⟩ : MethodName)) hown (mvT hZ (hw _ (List.mem_of_getElem? (i := 1) rfl))) (mvT hZ (hw _ (List.mem_of_getElem? (i := 2) rfl))) (mvT hZ (hw _ (List.mem_of_getElem? (i := 3) rfl))) (mvT hZ (hw _ (List.mem_of_getElem? (i := 4) rfl))) (by decide) (backOf (W := 0) (own_rm1 l Z a0 hw [] (0 : Int32) w_INTENTION w_TABLE w_NEXT_KEY w_RECORD w_IMPLICIT w_GAP w_INSERT_INTENTION h0 n0 Z0 S_INTENTION S_TABLE S_NEXT_KEY S_RECORD S_IMPLICIT S_GAP S_INSERT_INTENTION) hZ (hw _ (List.mem_of_getElem? (i := 4) rfl)) (hw _ (List.mem_of_getElem? (i := 3) rfl)) (by decide) (by decide)) (g := (mkF m 17 #[.val (.int p1), .val (.int p2), .val (.int (0 : Int32)), .val (.int (6 : Int32)), .unset, .unset] [(.int (0 : Int32))])) rfl (by rw [hml]; rfl) (argsL := [(.int (0 : Int32))]) (rest := []) (lenOf own_pd93 rfl) rfl (by show 2 * 0 + _ ≤ _; exact Nat.le_of_eq rfl) (hb hby at_17) (fun _ _ => ⟨rfl, e0, (by decide : 0 + 0 ≤ _), (by decide : 0 + 0 ≤ _)⟩)
                dsimp only [Pt.U, Pt.locs, Pt.cells, Pt.slots] at X59 l59 y59 z59 st59 hQ59
                subst l59 y59 z59
                obtain ⟨hv59, N59q, e59⟩ := hQ59
                have N60 := Fr.app N0 N59q
                rw [show (own_f1 (0 : Int32) w_INTENTION w_TABLE w_NEXT_KEY w_RECORD w_IMPLICIT w_GAP w_INSERT_INTENTION) = w_INTENTION from by first | rfl | decide | simp [own_f1]] at hv59
                subst hv59
                obtain ⟨v61, _, ⟨T61, L61, k61, n61⟩, -, X61, ⟨Lc61, hQ61, l61, y61, z61⟩, st61⟩ := Jvm.LawKit.callS X59 hx (y := (⟨"com/example/kerb/kerb/txn/LockKindCoversPinLaw", "pick", "(I)Lcom/example/kerb/kerb/txn/LockKind;"⟩ : MethodName)) hown (mvT hZ (hw _ (List.mem_of_getElem? (i := 1) rfl))) (mvT hZ (hw _ (List.mem_of_getElem? (i := 2) rfl))) (mvT hZ (hw _ (List.mem_of_getElem? (i := 3) rfl))) (mvT hZ (hw _ (List.mem_of_getElem? (i := 4) rfl))) (by decide) (backOf (W := 0) (own_rm1 l Z a0 hw [] (6 : Int32) w_INTENTION w_TABLE w_NEXT_KEY w_RECORD w_IMPLICIT w_GAP w_INSERT_INTENTION h0 n0 Z0 S_INTENTION S_TABLE S_NEXT_KEY S_RECORD S_IMPLICIT S_GAP S_INSERT_INTENTION) hZ (hw _ (List.mem_of_getElem? (i := 4) rfl)) (hw _ (List.mem_of_getElem? (i := 3) rfl)) (by decide) (by decide)) (g := (mkF m 23 #[.val (.int p1), .val (.int p2), .val (.int (0 : Int32)), .val (.int (6 : Int32)), .val (.ref w_INTENTION), .unset] [(.int (6 : Int32))])) rfl (by rw [hml]; rfl) (argsL := [(.int (6 : Int32))]) (rest := []) (lenOf own_pd93 rfl) rfl (by show 2 * 0 + _ ≤ _; exact Nat.le_of_eq rfl) (hb hby at_23) (fun _ _ => ⟨rfl, e59, (by decide : 0 + 0 ≤ _), (by decide : 0 + 0 ≤ _)⟩)
                dsimp only [Pt.U, Pt.locs, Pt.cells, Pt.slots] at X61 l61 y61 z61 st61 hQ61
                subst l61 y61 z61
                obtain ⟨hv61, N61q, e61⟩ := hQ61
                have N62 := Fr.app N60 N61q
                rw [show (own_f1 (6 : Int32) w_INTENTION w_TABLE w_NEXT_KEY w_RECORD w_IMPLICIT w_GAP w_INSERT_INTENTION) = w_INSERT_INTENTION from by first | rfl | decide | simp [own_f1]] at hv61
                subst hv61
                obtain ⟨cq63, kq63, q63a, q63b, q63c⟩ := isOf hZ e61 E_w_INTENTION
                obtain ⟨v63, _, ⟨T63, L63, k63, n63⟩, -, X63, ⟨Lc63, hQ63, l63, y63, z63⟩, st63⟩ := X61.virtualBack hx (y := (⟨"com/example/kerb/kerb/txn/LockKind", "covers", "(Lcom/example/kerb/kerb/txn/LockKind;)Z"⟩ : MethodName)) (z := (⟨"com/example/kerb/kerb/txn/LockKind", "covers", "(Lcom/example/kerb/kerb/txn/LockKind;)Z"⟩ : MethodName)) hown (mvT hZ (hw _ (List.mem_of_getElem? (i := 10) rfl))) (mvT hZ (hw _ (List.mem_of_getElem? (i := 11) rfl))) (notFace_of_selects (args := #[]) (mvT hZ (hw _ (List.mem_of_getElem? (i := 13) rfl)))) (mvT hZ (hw _ (List.mem_of_getElem? (i := 13) rfl))) (mvT hZ (hw _ (List.mem_of_getElem? (i := 12) rfl))) (by decide) (backOf (W := 0) (own_rm2 l Z a0 hw [] w_INTENTION w_INSERT_INTENTION (0 : Int32) w_NEXT_KEY w_GAP w_RECORD w_IMPLICIT h0 n0 Z0 F_coversRecord_w_INTENTION S_NEXT_KEY S_GAP S_RECORD S_IMPLICIT) hZ (hw _ (List.mem_of_getElem? (i := 14) rfl)) (hw _ (List.mem_of_getElem? (i := 6) rfl)) (by decide) (by decide)) q63a q63c (g := (mkF m 32 #[.val (.int p1), .val (.int p2), .val (.int (0 : Int32)), .val (.int (6 : Int32)), .val (.ref w_INTENTION), .val (.ref w_INSERT_INTENTION)] [(.ref w_INSERT_INTENTION), (.ref w_INTENTION)])) rfl (by rw [hml]; rfl) (Steps.refl _) (argsL := [(.ref w_INSERT_INTENTION)]) (rest := []) (lenOf own_pd94 rfl) rfl (by show 2 * 0 + _ ≤ _; exact Nat.le_of_eq rfl) (hb hby at_32) (fun _ _ => ⟨rfl, e61, (by decide : 0 + 0 ≤ _), (by decide : 0 + 0 ≤ _)⟩)
                dsimp only [Pt.U, Pt.locs, Pt.cells, Pt.slots] at X63 l63 y63 z63 st63 hQ63
                subst l63 y63 z63
                obtain ⟨hv63, N63q, e63⟩ := hQ63
                have N64 := Fr.app N62 N63q
                rw [show (own_f2 w_INTENTION w_INSERT_INTENTION (0 : Int32) w_NEXT_KEY w_GAP w_RECORD w_IMPLICIT) = (0 : Int32) from by first | rfl | decide | simp [own_f2, ne_INTENTION_INSERT_INTENTION, ne_INTENTION_NEXT_KEY]] at hv63
                subst hv63
                obtain ⟨v65, _, ⟨T65, L65, k65, n65⟩, -, X65, ⟨Lc65, hQ65, l65, y65, z65⟩, st65⟩ := Jvm.LawKit.callS X63 hx (y := (⟨"com/example/kerb/kerb/txn/LockKindCoversPinLaw", "expected", "(II)Z"⟩ : MethodName)) hown (mvT hZ (hw _ (List.mem_of_getElem? (i := 19) rfl))) (mvT hZ (hw _ (List.mem_of_getElem? (i := 20) rfl))) (mvT hZ (hw _ (List.mem_of_getElem? (i := 3) rfl))) (mvT hZ (hw _ (List.mem_of_getElem? (i := 21) rfl))) (by decide) (backOf (W := 1) (own_rm3 l Z a0 hw [] (0 : Int32) (6 : Int32) h0 n0 Z0) hZ (hw _ (List.mem_of_getElem? (i := 21) rfl)) (hw _ (List.mem_of_getElem? (i := 3) rfl)) (by decide) (by decide)) (g := (mkF m 37 #[.val (.int p1), .val (.int p2), .val (.int (0 : Int32)), .val (.int (6 : Int32)), .val (.ref w_INTENTION), .val (.ref w_INSERT_INTENTION)] [(.int (6 : Int32)), (.int (0 : Int32)), (.int (0 : Int32))])) rfl (by rw [hml]; rfl) (argsL := [(.int (0 : Int32)), (.int (6 : Int32))]) (rest := [(.int (0 : Int32))]) (lenOf own_pd95 rfl) rfl (by show 2 * 0 + _ ≤ _; exact Nat.le_of_eq rfl) (hb hby at_37) (fun _ _ => ⟨rfl, e63, (by decide : 0 + 0 ≤ _), (by decide : 0 + 0 ≤ _)⟩)
                dsimp only [Pt.U, Pt.locs, Pt.cells, Pt.slots] at X65 l65 y65 z65 st65 hQ65
                subst l65 y65 z65
                obtain ⟨hv65, N65q, e65⟩ := hQ65
                have N66 := Fr.app N64 N65q
                rw [show (own_f3 (0 : Int32) (6 : Int32)) = (0 : Int32) from by first | rfl | decide | simp [own_f3]] at hv65
                subst hv65
                obtain ⟨fs, hr, hrun, hended, hW, hsame⟩ := X65.leave (v := some (.int (1 : Int32))) (fun h => by rw [Bd.returns] at h; cases h)
                refine ⟨_, _, k58 _ ?_, hrun, hended, _, _, rfl, ?_, ⟨_, rfl⟩, hW, hsame.mono (by decide) (by decide)⟩
                · show Steps p.tables e below (s₁.setTop (mkF m 15 #[.val (.int p1), .val (.int p2), .val (.int (0 : Int32)), .unset, .unset, .unset] [(.int (6 : Int32))])) _
                  refine XS.istoreN X0.here hx rfl (hb hby at_15) rfl (l' := #[.val (.int p1), .val (.int p2), .val (.int (0 : Int32)), .val (.int (6 : Int32)), .unset, .unset]) rfl ?_
                  show Steps p.tables e below (s₁.setTop (mkF m 16 #[.val (.int p1), .val (.int p2), .val (.int (0 : Int32)), .val (.int (6 : Int32)), .unset, .unset] [])) _
                  refine XS.iloadN X0.here hx rfl (hb hby at_16) rfl ?_
                  show Steps p.tables e below (s₁.setTop (mkF m 17 #[.val (.int p1), .val (.int p2), .val (.int (0 : Int32)), .val (.int (6 : Int32)), .unset, .unset] [(.int (0 : Int32))])) _
                  refine st59 _ ?_
                  show Steps p.tables e below (T59.setTop (mkF m 20 #[.val (.int p1), .val (.int p2), .val (.int (0 : Int32)), .val (.int (6 : Int32)), .unset, .unset] [(.ref w_INTENTION)])) _
                  refine XS.astore X59.here hx rfl (hb hby at_20) rfl rfl (l' := #[.val (.int p1), .val (.int p2), .val (.int (0 : Int32)), .val (.int (6 : Int32)), .val (.ref w_INTENTION), .unset]) rfl ?_
                  show Steps p.tables e below (T59.setTop (mkF m 22 #[.val (.int p1), .val (.int p2), .val (.int (0 : Int32)), .val (.int (6 : Int32)), .val (.ref w_INTENTION), .unset] [])) _
                  refine XS.iloadN X59.here hx rfl (hb hby at_22) rfl ?_
                  show Steps p.tables e below (T59.setTop (mkF m 23 #[.val (.int p1), .val (.int p2), .val (.int (0 : Int32)), .val (.int (6 : Int32)), .val (.ref w_INTENTION), .unset] [(.int (6 : Int32))])) _
                  refine st61 _ ?_
                  show Steps p.tables e below (T61.setTop (mkF m 26 #[.val (.int p1), .val (.int p2), .val (.int (0 : Int32)), .val (.int (6 : Int32)), .val (.ref w_INTENTION), .unset] [(.ref w_INSERT_INTENTION)])) _
                  refine XS.astore X61.here hx rfl (hb hby at_26) rfl rfl (l' := #[.val (.int p1), .val (.int p2), .val (.int (0 : Int32)), .val (.int (6 : Int32)), .val (.ref w_INTENTION), .val (.ref w_INSERT_INTENTION)]) rfl ?_
                  show Steps p.tables e below (T61.setTop (mkF m 28 #[.val (.int p1), .val (.int p2), .val (.int (0 : Int32)), .val (.int (6 : Int32)), .val (.ref w_INTENTION), .val (.ref w_INSERT_INTENTION)] [])) _
                  refine XS.aload X61.here hx rfl (hb hby at_28) rfl rfl ?_
                  show Steps p.tables e below (T61.setTop (mkF m 30 #[.val (.int p1), .val (.int p2), .val (.int (0 : Int32)), .val (.int (6 : Int32)), .val (.ref w_INTENTION), .val (.ref w_INSERT_INTENTION)] [(.ref w_INTENTION)])) _
                  refine XS.aload X61.here hx rfl (hb hby at_30) rfl rfl ?_
                  show Steps p.tables e below (T61.setTop (mkF m 32 #[.val (.int p1), .val (.int p2), .val (.int (0 : Int32)), .val (.int (6 : Int32)), .val (.ref w_INTENTION), .val (.ref w_INSERT_INTENTION)] [(.ref w_INSERT_INTENTION), (.ref w_INTENTION)])) _
                  refine st63.trans ?_
                  show Steps p.tables e below (T63.setTop (mkF m 35 #[.val (.int p1), .val (.int p2), .val (.int (0 : Int32)), .val (.int (6 : Int32)), .val (.ref w_INTENTION), .val (.ref w_INSERT_INTENTION)] [(.int (0 : Int32))])) _
                  refine XS.iloadN X63.here hx rfl (hb hby at_35) rfl ?_
                  show Steps p.tables e below (T63.setTop (mkF m 36 #[.val (.int p1), .val (.int p2), .val (.int (0 : Int32)), .val (.int (6 : Int32)), .val (.ref w_INTENTION), .val (.ref w_INSERT_INTENTION)] [(.int (0 : Int32)), (.int (0 : Int32))])) _
                  refine XS.iloadN X63.here hx rfl (hb hby at_36) rfl ?_
                  show Steps p.tables e below (T63.setTop (mkF m 37 #[.val (.int p1), .val (.int p2), .val (.int (0 : Int32)), .val (.int (6 : Int32)), .val (.ref w_INTENTION), .val (.ref w_INSERT_INTENTION)] [(.int (6 : Int32)), (.int (0 : Int32)), (.int (0 : Int32))])) _
                  refine st65 _ ?_
                  show Steps p.tables e below (T65.setTop (mkF m 40 #[.val (.int p1), .val (.int p2), .val (.int (0 : Int32)), .val (.int (6 : Int32)), .val (.ref w_INTENTION), .val (.ref w_INSERT_INTENTION)] [(.int (0 : Int32)), (.int (0 : Int32))])) _
                  refine XS.icmpNo X65.here hx rfl (hb hby at_40) rfl (teq (by decide : (0 : Int32) = (0 : Int32))).2 ?_
                  show Steps p.tables e below (T65.setTop (mkF m 43 #[.val (.int p1), .val (.int p2), .val (.int (0 : Int32)), .val (.int (6 : Int32)), .val (.ref w_INTENTION), .val (.ref w_INSERT_INTENTION)] [])) _
                  refine XS.iconst X65.here hx rfl (hb hby at_43) ?_
                  show Steps p.tables e below (T65.setTop (mkF m 44 #[.val (.int p1), .val (.int p2), .val (.int (0 : Int32)), .val (.int (6 : Int32)), .val (.ref w_INTENTION), .val (.ref w_INSERT_INTENTION)] [(.int (1 : Int32))])) _
                  refine XS.goto X65.here hx rfl (pc0 := 44) (pc' := 48) rfl (hb hby at_44) (by decide) (by decide) ?_
                  show Steps p.tables e below (T65.setTop (mkF m 48 #[.val (.int p1), .val (.int p2), .val (.int (0 : Int32)), .val (.int (6 : Int32)), .val (.ref w_INTENTION), .val (.ref w_INSERT_INTENTION)] [(.int (1 : Int32))])) _
                  exact retN X65 hx (t := .boolean) Bd.returns (by simp) (hb hby at_48) hr
                · show own_Q0 Z p1 p2 w_INTENTION w_TABLE w_NEXT_KEY w_RECORD w_IMPLICIT w_GAP w_INSERT_INTENTION h0 n0 _ T65.heap _
                  rw [e65]
                  exact ⟨(by rw [own_f0, if_pos hc1, if_neg hc2, if_neg hc3, if_neg hc4, if_neg hc5, if_neg hc6, if_neg hc7]), N66⟩
  ·
    by_cases hc9 : ((p1 &&& (2147483647 : Int32)) - ((p1 &&& (2147483647 : Int32)) / (7 : Int32)) * (7 : Int32)) = (1 : Int32)
    ·
      have k67 : ∀ t, Steps p.tables e below (s₁.setTop (mkF m 7 #[.val (.int p1), .val (.int p2), .unset, .unset, .unset, .unset] [(.int (1 : Int32))])) t → Steps p.tables e below (s₁.setTop (entryFrame m #[(.int p1), (.int p2)] maxLocals)) t := by
        intro t kt
        refine k1 t ?_
        rw [hc9]
        exact kt
      have k68 : ∀ t, Steps p.tables e below (s₁.setTop (mkF m 15 #[.val (.int p1), .val (.int p2), .val (.int (1 : Int32)), .unset, .unset, .unset] [(.int ((p2 &&& (2147483647 : Int32)) - ((p2 &&& (2147483647 : Int32)) / (7 : Int32)) * (7 : Int32)))])) t → Steps p.tables e below (s₁.setTop (entryFrame m #[(.int p1), (.int p2)] maxLocals)) t := by
        intro t kt
        refine k67 t ?_
        show Steps p.tables e below (s₁.setTop (mkF m 7 #[.val (.int p1), .val (.int p2), .unset, .unset, .unset, .unset] [(.int (1 : Int32))])) _
        refine XS.istoreN X0.here hx rfl (hb hby at_7) rfl (l' := #[.val (.int p1), .val (.int p2), .val (.int (1 : Int32)), .unset, .unset, .unset]) rfl ?_
        show Steps p.tables e below (s₁.setTop (mkF m 8 #[.val (.int p1), .val (.int p2), .val (.int (1 : Int32)), .unset, .unset, .unset] [])) _
        refine XS.iloadN X0.here hx rfl (hb hby at_8) rfl ?_
        show Steps p.tables e below (s₁.setTop (mkF m 9 #[.val (.int p1), .val (.int p2), .val (.int (1 : Int32)), .unset, .unset, .unset] [(.int p2)])) _
        refine X0.ldcInt hx hown (mvT hZ (hw _ (List.mem_of_getElem? (i := 0) rfl))) (g := (mkF m 9 #[.val (.int p1), .val (.int p2), .val (.int (1 : Int32)), .unset, .unset, .unset] [(.int p2)])) rfl (hb hby at_9) _ ?_
        show Steps p.tables e below (s₁.setTop (mkF m 11 #[.val (.int p1), .val (.int p2), .val (.int (1 : Int32)), .unset, .unset, .unset] [(.int (2147483647 : Int32)), (.int p2)])) _
        refine XS.iand X0.here hx rfl (hb hby at_11) rfl ?_
        show Steps p.tables e below (s₁.setTop (mkF m 12 #[.val (.int p1), .val (.int p2), .val (.int (1 : Int32)), .unset, .unset, .unset] [(.int (p2 &&& (2147483647 : Int32)))])) _
        refine XS.bipush X0.here hx rfl (hb hby at_12) ?_
        show Steps p.tables e below (s₁.setTop (mkF m 14 #[.val (.int p1), .val (.int p2), .val (.int (1 : Int32)), .unset, .unset, .unset] [(.int (7 : Int32)), (.int (p2 &&& (2147483647 : Int32)))])) _
        refine XS.irem X0.here hx rfl (hb hby at_14) rfl (by decide) ?_
        exact kt
      by_cases hc10 : ((p2 &&& (2147483647 : Int32)) - ((p2 &&& (2147483647 : Int32)) / (7 : Int32)) * (7 : Int32)) = (0 : Int32)
      ·
        have k69 : ∀ t, Steps p.tables e below (s₁.setTop (mkF m 15 #[.val (.int p1), .val (.int p2), .val (.int (1 : Int32)), .unset, .unset, .unset] [(.int (0 : Int32))])) t → Steps p.tables e below (s₁.setTop (entryFrame m #[(.int p1), (.int p2)] maxLocals)) t := by
          intro t kt
          refine k68 t ?_
          rw [hc10]
          exact kt
        obtain ⟨v70, _, ⟨T70, L70, k70, n70⟩, -, X70, ⟨Lc70, hQ70, l70, y70, z70⟩, st70⟩ := Jvm.LawKit.callS X0 hx (y := (⟨"com/example/kerb/kerb/txn/LockKindCoversPinLaw", "pick", "(I)Lcom/example/kerb/kerb/txn/LockKind;"⟩ : MethodName)) hown (mvT hZ (hw _ (List.mem_of_getElem? (i := 1) rfl))) (mvT hZ (hw _ (List.mem_of_getElem? (i := 2) rfl))) (mvT hZ (hw _ (List.mem_of_getElem? (i := 3) rfl))) (mvT hZ (hw _ (List.mem_of_getElem? (i := 4) rfl))) (by decide) (backOf (W := 0) (own_rm1 l Z a0 hw [] (1 : Int32) w_INTENTION w_TABLE w_NEXT_KEY w_RECORD w_IMPLICIT w_GAP w_INSERT_INTENTION h0 n0 Z0 S_INTENTION S_TABLE S_NEXT_KEY S_RECORD S_IMPLICIT S_GAP S_INSERT_INTENTION) hZ (hw _ (List.mem_of_getElem? (i := 4) rfl)) (hw _ (List.mem_of_getElem? (i := 3) rfl)) (by decide) (by decide)) (g := (mkF m 17 #[.val (.int p1), .val (.int p2), .val (.int (1 : Int32)), .val (.int (0 : Int32)), .unset, .unset] [(.int (1 : Int32))])) rfl (by rw [hml]; rfl) (argsL := [(.int (1 : Int32))]) (rest := []) (lenOf own_pd93 rfl) rfl (by show 2 * 0 + _ ≤ _; exact Nat.le_of_eq rfl) (hb hby at_17) (fun _ _ => ⟨rfl, e0, (by decide : 0 + 0 ≤ _), (by decide : 0 + 0 ≤ _)⟩)
        dsimp only [Pt.U, Pt.locs, Pt.cells, Pt.slots] at X70 l70 y70 z70 st70 hQ70
        subst l70 y70 z70
        obtain ⟨hv70, N70q, e70⟩ := hQ70
        have N71 := Fr.app N0 N70q
        rw [show (own_f1 (1 : Int32) w_INTENTION w_TABLE w_NEXT_KEY w_RECORD w_IMPLICIT w_GAP w_INSERT_INTENTION) = w_TABLE from by first | rfl | decide | simp [own_f1]] at hv70
        subst hv70
        obtain ⟨v72, _, ⟨T72, L72, k72, n72⟩, -, X72, ⟨Lc72, hQ72, l72, y72, z72⟩, st72⟩ := Jvm.LawKit.callS X70 hx (y := (⟨"com/example/kerb/kerb/txn/LockKindCoversPinLaw", "pick", "(I)Lcom/example/kerb/kerb/txn/LockKind;"⟩ : MethodName)) hown (mvT hZ (hw _ (List.mem_of_getElem? (i := 1) rfl))) (mvT hZ (hw _ (List.mem_of_getElem? (i := 2) rfl))) (mvT hZ (hw _ (List.mem_of_getElem? (i := 3) rfl))) (mvT hZ (hw _ (List.mem_of_getElem? (i := 4) rfl))) (by decide) (backOf (W := 0) (own_rm1 l Z a0 hw [] (0 : Int32) w_INTENTION w_TABLE w_NEXT_KEY w_RECORD w_IMPLICIT w_GAP w_INSERT_INTENTION h0 n0 Z0 S_INTENTION S_TABLE S_NEXT_KEY S_RECORD S_IMPLICIT S_GAP S_INSERT_INTENTION) hZ (hw _ (List.mem_of_getElem? (i := 4) rfl)) (hw _ (List.mem_of_getElem? (i := 3) rfl)) (by decide) (by decide)) (g := (mkF m 23 #[.val (.int p1), .val (.int p2), .val (.int (1 : Int32)), .val (.int (0 : Int32)), .val (.ref w_TABLE), .unset] [(.int (0 : Int32))])) rfl (by rw [hml]; rfl) (argsL := [(.int (0 : Int32))]) (rest := []) (lenOf own_pd93 rfl) rfl (by show 2 * 0 + _ ≤ _; exact Nat.le_of_eq rfl) (hb hby at_23) (fun _ _ => ⟨rfl, e70, (by decide : 0 + 0 ≤ _), (by decide : 0 + 0 ≤ _)⟩)
        dsimp only [Pt.U, Pt.locs, Pt.cells, Pt.slots] at X72 l72 y72 z72 st72 hQ72
        subst l72 y72 z72
        obtain ⟨hv72, N72q, e72⟩ := hQ72
        have N73 := Fr.app N71 N72q
        rw [show (own_f1 (0 : Int32) w_INTENTION w_TABLE w_NEXT_KEY w_RECORD w_IMPLICIT w_GAP w_INSERT_INTENTION) = w_INTENTION from by first | rfl | decide | simp [own_f1]] at hv72
        subst hv72
        obtain ⟨cq74, kq74, q74a, q74b, q74c⟩ := isOf hZ e72 E_w_TABLE
        obtain ⟨v74, _, ⟨T74, L74, k74, n74⟩, -, X74, ⟨Lc74, hQ74, l74, y74, z74⟩, st74⟩ := X72.virtualBack hx (y := (⟨"com/example/kerb/kerb/txn/LockKind", "covers", "(Lcom/example/kerb/kerb/txn/LockKind;)Z"⟩ : MethodName)) (z := (⟨"com/example/kerb/kerb/txn/LockKind", "covers", "(Lcom/example/kerb/kerb/txn/LockKind;)Z"⟩ : MethodName)) hown (mvT hZ (hw _ (List.mem_of_getElem? (i := 10) rfl))) (mvT hZ (hw _ (List.mem_of_getElem? (i := 11) rfl))) (notFace_of_selects (args := #[]) (mvT hZ (hw _ (List.mem_of_getElem? (i := 13) rfl)))) (mvT hZ (hw _ (List.mem_of_getElem? (i := 13) rfl))) (mvT hZ (hw _ (List.mem_of_getElem? (i := 12) rfl))) (by decide) (backOf (W := 0) (own_rm2 l Z a0 hw [] w_TABLE w_INTENTION (0 : Int32) w_NEXT_KEY w_GAP w_RECORD w_IMPLICIT h0 n0 Z0 F_coversRecord_w_TABLE S_NEXT_KEY S_GAP S_RECORD S_IMPLICIT) hZ (hw _ (List.mem_of_getElem? (i := 14) rfl)) (hw _ (List.mem_of_getElem? (i := 6) rfl)) (by decide) (by decide)) q74a q74c (g := (mkF m 32 #[.val (.int p1), .val (.int p2), .val (.int (1 : Int32)), .val (.int (0 : Int32)), .val (.ref w_TABLE), .val (.ref w_INTENTION)] [(.ref w_INTENTION), (.ref w_TABLE)])) rfl (by rw [hml]; rfl) (Steps.refl _) (argsL := [(.ref w_INTENTION)]) (rest := []) (lenOf own_pd94 rfl) rfl (by show 2 * 0 + _ ≤ _; exact Nat.le_of_eq rfl) (hb hby at_32) (fun _ _ => ⟨rfl, e72, (by decide : 0 + 0 ≤ _), (by decide : 0 + 0 ≤ _)⟩)
        dsimp only [Pt.U, Pt.locs, Pt.cells, Pt.slots] at X74 l74 y74 z74 st74 hQ74
        subst l74 y74 z74
        obtain ⟨hv74, N74q, e74⟩ := hQ74
        have N75 := Fr.app N73 N74q
        rw [show (own_f2 w_TABLE w_INTENTION (0 : Int32) w_NEXT_KEY w_GAP w_RECORD w_IMPLICIT) = (0 : Int32) from by first | rfl | decide | simp [own_f2, ne_INTENTION_TABLE.symm, ne_TABLE_NEXT_KEY]] at hv74
        subst hv74
        obtain ⟨v76, _, ⟨T76, L76, k76, n76⟩, -, X76, ⟨Lc76, hQ76, l76, y76, z76⟩, st76⟩ := Jvm.LawKit.callS X74 hx (y := (⟨"com/example/kerb/kerb/txn/LockKindCoversPinLaw", "expected", "(II)Z"⟩ : MethodName)) hown (mvT hZ (hw _ (List.mem_of_getElem? (i := 19) rfl))) (mvT hZ (hw _ (List.mem_of_getElem? (i := 20) rfl))) (mvT hZ (hw _ (List.mem_of_getElem? (i := 3) rfl))) (mvT hZ (hw _ (List.mem_of_getElem? (i := 21) rfl))) (by decide) (backOf (W := 1) (own_rm3 l Z a0 hw [] (1 : Int32) (0 : Int32) h0 n0 Z0) hZ (hw _ (List.mem_of_getElem? (i := 21) rfl)) (hw _ (List.mem_of_getElem? (i := 3) rfl)) (by decide) (by decide)) (g := (mkF m 37 #[.val (.int p1), .val (.int p2), .val (.int (1 : Int32)), .val (.int (0 : Int32)), .val (.ref w_TABLE), .val (.ref w_INTENTION)] [(.int (0 : Int32)), (.int (1 : Int32)), (.int (0 : Int32))])) rfl (by rw [hml]; rfl) (argsL := [(.int (1 : Int32)), (.int (0 : Int32))]) (rest := [(.int (0 : Int32))]) (lenOf own_pd95 rfl) rfl (by show 2 * 0 + _ ≤ _; exact Nat.le_of_eq rfl) (hb hby at_37) (fun _ _ => ⟨rfl, e74, (by decide : 0 + 0 ≤ _), (by decide : 0 + 0 ≤ _)⟩)
        dsimp only [Pt.U, Pt.locs, Pt.cells, Pt.slots] at X76 l76 y76 z76 st76 hQ76
        subst l76 y76 z76
        obtain ⟨hv76, N76q, e76⟩ := hQ76
        have N77 := Fr.app N75 N76q
        rw [show (own_f3 (1 : Int32) (0 : Int32)) = (0 : Int32) from by first | rfl | decide | simp [own_f3]] at hv76
        subst hv76
        obtain ⟨fs, hr, hrun, hended, hW, hsame⟩ := X76.leave (v := some (.int (1 : Int32))) (fun h => by rw [Bd.returns] at h; cases h)
        refine ⟨_, _, k69 _ ?_, hrun, hended, _, _, rfl, ?_, ⟨_, rfl⟩, hW, hsame.mono (by decide) (by decide)⟩
        · show Steps p.tables e below (s₁.setTop (mkF m 15 #[.val (.int p1), .val (.int p2), .val (.int (1 : Int32)), .unset, .unset, .unset] [(.int (0 : Int32))])) _
          refine XS.istoreN X0.here hx rfl (hb hby at_15) rfl (l' := #[.val (.int p1), .val (.int p2), .val (.int (1 : Int32)), .val (.int (0 : Int32)), .unset, .unset]) rfl ?_
          show Steps p.tables e below (s₁.setTop (mkF m 16 #[.val (.int p1), .val (.int p2), .val (.int (1 : Int32)), .val (.int (0 : Int32)), .unset, .unset] [])) _
          refine XS.iloadN X0.here hx rfl (hb hby at_16) rfl ?_
          show Steps p.tables e below (s₁.setTop (mkF m 17 #[.val (.int p1), .val (.int p2), .val (.int (1 : Int32)), .val (.int (0 : Int32)), .unset, .unset] [(.int (1 : Int32))])) _
          refine st70 _ ?_
          show Steps p.tables e below (T70.setTop (mkF m 20 #[.val (.int p1), .val (.int p2), .val (.int (1 : Int32)), .val (.int (0 : Int32)), .unset, .unset] [(.ref w_TABLE)])) _
          refine XS.astore X70.here hx rfl (hb hby at_20) rfl rfl (l' := #[.val (.int p1), .val (.int p2), .val (.int (1 : Int32)), .val (.int (0 : Int32)), .val (.ref w_TABLE), .unset]) rfl ?_
          show Steps p.tables e below (T70.setTop (mkF m 22 #[.val (.int p1), .val (.int p2), .val (.int (1 : Int32)), .val (.int (0 : Int32)), .val (.ref w_TABLE), .unset] [])) _
          refine XS.iloadN X70.here hx rfl (hb hby at_22) rfl ?_
          show Steps p.tables e below (T70.setTop (mkF m 23 #[.val (.int p1), .val (.int p2), .val (.int (1 : Int32)), .val (.int (0 : Int32)), .val (.ref w_TABLE), .unset] [(.int (0 : Int32))])) _
          refine st72 _ ?_
          show Steps p.tables e below (T72.setTop (mkF m 26 #[.val (.int p1), .val (.int p2), .val (.int (1 : Int32)), .val (.int (0 : Int32)), .val (.ref w_TABLE), .unset] [(.ref w_INTENTION)])) _
          refine XS.astore X72.here hx rfl (hb hby at_26) rfl rfl (l' := #[.val (.int p1), .val (.int p2), .val (.int (1 : Int32)), .val (.int (0 : Int32)), .val (.ref w_TABLE), .val (.ref w_INTENTION)]) rfl ?_
          show Steps p.tables e below (T72.setTop (mkF m 28 #[.val (.int p1), .val (.int p2), .val (.int (1 : Int32)), .val (.int (0 : Int32)), .val (.ref w_TABLE), .val (.ref w_INTENTION)] [])) _
          refine XS.aload X72.here hx rfl (hb hby at_28) rfl rfl ?_
          show Steps p.tables e below (T72.setTop (mkF m 30 #[.val (.int p1), .val (.int p2), .val (.int (1 : Int32)), .val (.int (0 : Int32)), .val (.ref w_TABLE), .val (.ref w_INTENTION)] [(.ref w_TABLE)])) _
          refine XS.aload X72.here hx rfl (hb hby at_30) rfl rfl ?_
          show Steps p.tables e below (T72.setTop (mkF m 32 #[.val (.int p1), .val (.int p2), .val (.int (1 : Int32)), .val (.int (0 : Int32)), .val (.ref w_TABLE), .val (.ref w_INTENTION)] [(.ref w_INTENTION), (.ref w_TABLE)])) _
          refine st74.trans ?_
          show Steps p.tables e below (T74.setTop (mkF m 35 #[.val (.int p1), .val (.int p2), .val (.int (1 : Int32)), .val (.int (0 : Int32)), .val (.ref w_TABLE), .val (.ref w_INTENTION)] [(.int (0 : Int32))])) _
          refine XS.iloadN X74.here hx rfl (hb hby at_35) rfl ?_
          show Steps p.tables e below (T74.setTop (mkF m 36 #[.val (.int p1), .val (.int p2), .val (.int (1 : Int32)), .val (.int (0 : Int32)), .val (.ref w_TABLE), .val (.ref w_INTENTION)] [(.int (1 : Int32)), (.int (0 : Int32))])) _
          refine XS.iloadN X74.here hx rfl (hb hby at_36) rfl ?_
          show Steps p.tables e below (T74.setTop (mkF m 37 #[.val (.int p1), .val (.int p2), .val (.int (1 : Int32)), .val (.int (0 : Int32)), .val (.ref w_TABLE), .val (.ref w_INTENTION)] [(.int (0 : Int32)), (.int (1 : Int32)), (.int (0 : Int32))])) _
          refine st76 _ ?_
          show Steps p.tables e below (T76.setTop (mkF m 40 #[.val (.int p1), .val (.int p2), .val (.int (1 : Int32)), .val (.int (0 : Int32)), .val (.ref w_TABLE), .val (.ref w_INTENTION)] [(.int (0 : Int32)), (.int (0 : Int32))])) _
          refine XS.icmpNo X76.here hx rfl (hb hby at_40) rfl (teq (by decide : (0 : Int32) = (0 : Int32))).2 ?_
          show Steps p.tables e below (T76.setTop (mkF m 43 #[.val (.int p1), .val (.int p2), .val (.int (1 : Int32)), .val (.int (0 : Int32)), .val (.ref w_TABLE), .val (.ref w_INTENTION)] [])) _
          refine XS.iconst X76.here hx rfl (hb hby at_43) ?_
          show Steps p.tables e below (T76.setTop (mkF m 44 #[.val (.int p1), .val (.int p2), .val (.int (1 : Int32)), .val (.int (0 : Int32)), .val (.ref w_TABLE), .val (.ref w_INTENTION)] [(.int (1 : Int32))])) _
          refine XS.goto X76.here hx rfl (pc0 := 44) (pc' := 48) rfl (hb hby at_44) (by decide) (by decide) ?_
          show Steps p.tables e below (T76.setTop (mkF m 48 #[.val (.int p1), .val (.int p2), .val (.int (1 : Int32)), .val (.int (0 : Int32)), .val (.ref w_TABLE), .val (.ref w_INTENTION)] [(.int (1 : Int32))])) _
          exact retN X76 hx (t := .boolean) Bd.returns (by simp) (hb hby at_48) hr
        · show own_Q0 Z p1 p2 w_INTENTION w_TABLE w_NEXT_KEY w_RECORD w_IMPLICIT w_GAP w_INSERT_INTENTION h0 n0 _ T76.heap _
          rw [e76]
          exact ⟨(by rw [own_f0, if_neg hc1, if_pos hc9, if_pos hc10]), N77⟩
      ·
        by_cases hc11 : ((p2 &&& (2147483647 : Int32)) - ((p2 &&& (2147483647 : Int32)) / (7 : Int32)) * (7 : Int32)) = (1 : Int32)
        ·
          have k78 : ∀ t, Steps p.tables e below (s₁.setTop (mkF m 15 #[.val (.int p1), .val (.int p2), .val (.int (1 : Int32)), .unset, .unset, .unset] [(.int (1 : Int32))])) t → Steps p.tables e below (s₁.setTop (entryFrame m #[(.int p1), (.int p2)] maxLocals)) t := by
            intro t kt
            refine k68 t ?_
            rw [hc11]
            exact kt
          obtain ⟨v79, _, ⟨T79, L79, k79, n79⟩, -, X79, ⟨Lc79, hQ79, l79, y79, z79⟩, st79⟩ := Jvm.LawKit.callS X0 hx (y := (⟨"com/example/kerb/kerb/txn/LockKindCoversPinLaw", "pick", "(I)Lcom/example/kerb/kerb/txn/LockKind;"⟩ : MethodName)) hown (mvT hZ (hw _ (List.mem_of_getElem? (i := 1) rfl))) (mvT hZ (hw _ (List.mem_of_getElem? (i := 2) rfl))) (mvT hZ (hw _ (List.mem_of_getElem? (i := 3) rfl))) (mvT hZ (hw _ (List.mem_of_getElem? (i := 4) rfl))) (by decide) (backOf (W := 0) (own_rm1 l Z a0 hw [] (1 : Int32) w_INTENTION w_TABLE w_NEXT_KEY w_RECORD w_IMPLICIT w_GAP w_INSERT_INTENTION h0 n0 Z0 S_INTENTION S_TABLE S_NEXT_KEY S_RECORD S_IMPLICIT S_GAP S_INSERT_INTENTION) hZ (hw _ (List.mem_of_getElem? (i := 4) rfl)) (hw _ (List.mem_of_getElem? (i := 3) rfl)) (by decide) (by decide)) (g := (mkF m 17 #[.val (.int p1), .val (.int p2), .val (.int (1 : Int32)), .val (.int (1 : Int32)), .unset, .unset] [(.int (1 : Int32))])) rfl (by rw [hml]; rfl) (argsL := [(.int (1 : Int32))]) (rest := []) (lenOf own_pd93 rfl) rfl (by show 2 * 0 + _ ≤ _; exact Nat.le_of_eq rfl) (hb hby at_17) (fun _ _ => ⟨rfl, e0, (by decide : 0 + 0 ≤ _), (by decide : 0 + 0 ≤ _)⟩)
          dsimp only [Pt.U, Pt.locs, Pt.cells, Pt.slots] at X79 l79 y79 z79 st79 hQ79
          subst l79 y79 z79
          obtain ⟨hv79, N79q, e79⟩ := hQ79
          have N80 := Fr.app N0 N79q
          rw [show (own_f1 (1 : Int32) w_INTENTION w_TABLE w_NEXT_KEY w_RECORD w_IMPLICIT w_GAP w_INSERT_INTENTION) = w_TABLE from by first | rfl | decide | simp [own_f1]] at hv79
          subst hv79
          obtain ⟨v81, _, ⟨T81, L81, k81, n81⟩, -, X81, ⟨Lc81, hQ81, l81, y81, z81⟩, st81⟩ := Jvm.LawKit.callS X79 hx (y := (⟨"com/example/kerb/kerb/txn/LockKindCoversPinLaw", "pick", "(I)Lcom/example/kerb/kerb/txn/LockKind;"⟩ : MethodName)) hown (mvT hZ (hw _ (List.mem_of_getElem? (i := 1) rfl))) (mvT hZ (hw _ (List.mem_of_getElem? (i := 2) rfl))) (mvT hZ (hw _ (List.mem_of_getElem? (i := 3) rfl))) (mvT hZ (hw _ (List.mem_of_getElem? (i := 4) rfl))) (by decide) (backOf (W := 0) (own_rm1 l Z a0 hw [] (1 : Int32) w_INTENTION w_TABLE w_NEXT_KEY w_RECORD w_IMPLICIT w_GAP w_INSERT_INTENTION h0 n0 Z0 S_INTENTION S_TABLE S_NEXT_KEY S_RECORD S_IMPLICIT S_GAP S_INSERT_INTENTION) hZ (hw _ (List.mem_of_getElem? (i := 4) rfl)) (hw _ (List.mem_of_getElem? (i := 3) rfl)) (by decide) (by decide)) (g := (mkF m 23 #[.val (.int p1), .val (.int p2), .val (.int (1 : Int32)), .val (.int (1 : Int32)), .val (.ref w_TABLE), .unset] [(.int (1 : Int32))])) rfl (by rw [hml]; rfl) (argsL := [(.int (1 : Int32))]) (rest := []) (lenOf own_pd93 rfl) rfl (by show 2 * 0 + _ ≤ _; exact Nat.le_of_eq rfl) (hb hby at_23) (fun _ _ => ⟨rfl, e79, (by decide : 0 + 0 ≤ _), (by decide : 0 + 0 ≤ _)⟩)
          dsimp only [Pt.U, Pt.locs, Pt.cells, Pt.slots] at X81 l81 y81 z81 st81 hQ81
          subst l81 y81 z81
          obtain ⟨hv81, N81q, e81⟩ := hQ81
          have N82 := Fr.app N80 N81q
          rw [show (own_f1 (1 : Int32) w_INTENTION w_TABLE w_NEXT_KEY w_RECORD w_IMPLICIT w_GAP w_INSERT_INTENTION) = w_TABLE from by first | rfl | decide | simp [own_f1]] at hv81
          subst hv81
          obtain ⟨cq83, kq83, q83a, q83b, q83c⟩ := isOf hZ e81 E_w_TABLE
          obtain ⟨v83, _, ⟨T83, L83, k83, n83⟩, -, X83, ⟨Lc83, hQ83, l83, y83, z83⟩, st83⟩ := X81.virtualBack hx (y := (⟨"com/example/kerb/kerb/txn/LockKind", "covers", "(Lcom/example/kerb/kerb/txn/LockKind;)Z"⟩ : MethodName)) (z := (⟨"com/example/kerb/kerb/txn/LockKind", "covers", "(Lcom/example/kerb/kerb/txn/LockKind;)Z"⟩ : MethodName)) hown (mvT hZ (hw _ (List.mem_of_getElem? (i := 10) rfl))) (mvT hZ (hw _ (List.mem_of_getElem? (i := 11) rfl))) (notFace_of_selects (args := #[]) (mvT hZ (hw _ (List.mem_of_getElem? (i := 13) rfl)))) (mvT hZ (hw _ (List.mem_of_getElem? (i := 13) rfl))) (mvT hZ (hw _ (List.mem_of_getElem? (i := 12) rfl))) (by decide) (backOf (W := 0) (own_rm2 l Z a0 hw [] w_TABLE w_TABLE (0 : Int32) w_NEXT_KEY w_GAP w_RECORD w_IMPLICIT h0 n0 Z0 F_coversRecord_w_TABLE S_NEXT_KEY S_GAP S_RECORD S_IMPLICIT) hZ (hw _ (List.mem_of_getElem? (i := 14) rfl)) (hw _ (List.mem_of_getElem? (i := 6) rfl)) (by decide) (by decide)) q83a q83c (g := (mkF m 32 #[.val (.int p1), .val (.int p2), .val (.int (1 : Int32)), .val (.int (1 : Int32)), .val (.ref w_TABLE), .val (.ref w_TABLE)] [(.ref w_TABLE), (.ref w_TABLE)])) rfl (by rw [hml]; rfl) (Steps.refl _) (argsL := [(.ref w_TABLE)]) (rest := []) (lenOf own_pd94 rfl) rfl (by show 2 * 0 + _ ≤ _; exact Nat.le_of_eq rfl) (hb hby at_32) (fun _ _ => ⟨rfl, e81, (by decide : 0 + 0 ≤ _), (by decide : 0 + 0 ≤ _)⟩)
          dsimp only [Pt.U, Pt.locs, Pt.cells, Pt.slots] at X83 l83 y83 z83 st83 hQ83
          subst l83 y83 z83
          obtain ⟨hv83, N83q, e83⟩ := hQ83
          have N84 := Fr.app N82 N83q
          rw [show (own_f2 w_TABLE w_TABLE (0 : Int32) w_NEXT_KEY w_GAP w_RECORD w_IMPLICIT) = (1 : Int32) from by first | rfl | decide | simp [own_f2]] at hv83
          subst hv83
          obtain ⟨v85, _, ⟨T85, L85, k85, n85⟩, -, X85, ⟨Lc85, hQ85, l85, y85, z85⟩, st85⟩ := Jvm.LawKit.callS X83 hx (y := (⟨"com/example/kerb/kerb/txn/LockKindCoversPinLaw", "expected", "(II)Z"⟩ : MethodName)) hown (mvT hZ (hw _ (List.mem_of_getElem? (i := 19) rfl))) (mvT hZ (hw _ (List.mem_of_getElem? (i := 20) rfl))) (mvT hZ (hw _ (List.mem_of_getElem? (i := 3) rfl))) (mvT hZ (hw _ (List.mem_of_getElem? (i := 21) rfl))) (by decide) (backOf (W := 1) (own_rm3 l Z a0 hw [] (1 : Int32) (1 : Int32) h0 n0 Z0) hZ (hw _ (List.mem_of_getElem? (i := 21) rfl)) (hw _ (List.mem_of_getElem? (i := 3) rfl)) (by decide) (by decide)) (g := (mkF m 37 #[.val (.int p1), .val (.int p2), .val (.int (1 : Int32)), .val (.int (1 : Int32)), .val (.ref w_TABLE), .val (.ref w_TABLE)] [(.int (1 : Int32)), (.int (1 : Int32)), (.int (1 : Int32))])) rfl (by rw [hml]; rfl) (argsL := [(.int (1 : Int32)), (.int (1 : Int32))]) (rest := [(.int (1 : Int32))]) (lenOf own_pd95 rfl) rfl (by show 2 * 0 + _ ≤ _; exact Nat.le_of_eq rfl) (hb hby at_37) (fun _ _ => ⟨rfl, e83, (by decide : 0 + 0 ≤ _), (by decide : 0 + 0 ≤ _)⟩)
          dsimp only [Pt.U, Pt.locs, Pt.cells, Pt.slots] at X85 l85 y85 z85 st85 hQ85
          subst l85 y85 z85
          obtain ⟨hv85, N85q, e85⟩ := hQ85
          have N86 := Fr.app N84 N85q
          rw [show (own_f3 (1 : Int32) (1 : Int32)) = (1 : Int32) from by first | rfl | decide | simp [own_f3]] at hv85
          subst hv85
          obtain ⟨fs, hr, hrun, hended, hW, hsame⟩ := X85.leave (v := some (.int (1 : Int32))) (fun h => by rw [Bd.returns] at h; cases h)
          refine ⟨_, _, k78 _ ?_, hrun, hended, _, _, rfl, ?_, ⟨_, rfl⟩, hW, hsame.mono (by decide) (by decide)⟩
          · show Steps p.tables e below (s₁.setTop (mkF m 15 #[.val (.int p1), .val (.int p2), .val (.int (1 : Int32)), .unset, .unset, .unset] [(.int (1 : Int32))])) _
            refine XS.istoreN X0.here hx rfl (hb hby at_15) rfl (l' := #[.val (.int p1), .val (.int p2), .val (.int (1 : Int32)), .val (.int (1 : Int32)), .unset, .unset]) rfl ?_
            show Steps p.tables e below (s₁.setTop (mkF m 16 #[.val (.int p1), .val (.int p2), .val (.int (1 : Int32)), .val (.int (1 : Int32)), .unset, .unset] [])) _
            refine XS.iloadN X0.here hx rfl (hb hby at_16) rfl ?_
            show Steps p.tables e below (s₁.setTop (mkF m 17 #[.val (.int p1), .val (.int p2), .val (.int (1 : Int32)), .val (.int (1 : Int32)), .unset, .unset] [(.int (1 : Int32))])) _
            refine st79 _ ?_
            show Steps p.tables e below (T79.setTop (mkF m 20 #[.val (.int p1), .val (.int p2), .val (.int (1 : Int32)), .val (.int (1 : Int32)), .unset, .unset] [(.ref w_TABLE)])) _
            refine XS.astore X79.here hx rfl (hb hby at_20) rfl rfl (l' := #[.val (.int p1), .val (.int p2), .val (.int (1 : Int32)), .val (.int (1 : Int32)), .val (.ref w_TABLE), .unset]) rfl ?_
            show Steps p.tables e below (T79.setTop (mkF m 22 #[.val (.int p1), .val (.int p2), .val (.int (1 : Int32)), .val (.int (1 : Int32)), .val (.ref w_TABLE), .unset] [])) _
            refine XS.iloadN X79.here hx rfl (hb hby at_22) rfl ?_
            show Steps p.tables e below (T79.setTop (mkF m 23 #[.val (.int p1), .val (.int p2), .val (.int (1 : Int32)), .val (.int (1 : Int32)), .val (.ref w_TABLE), .unset] [(.int (1 : Int32))])) _
            refine st81 _ ?_
            show Steps p.tables e below (T81.setTop (mkF m 26 #[.val (.int p1), .val (.int p2), .val (.int (1 : Int32)), .val (.int (1 : Int32)), .val (.ref w_TABLE), .unset] [(.ref w_TABLE)])) _
            refine XS.astore X81.here hx rfl (hb hby at_26) rfl rfl (l' := #[.val (.int p1), .val (.int p2), .val (.int (1 : Int32)), .val (.int (1 : Int32)), .val (.ref w_TABLE), .val (.ref w_TABLE)]) rfl ?_
            show Steps p.tables e below (T81.setTop (mkF m 28 #[.val (.int p1), .val (.int p2), .val (.int (1 : Int32)), .val (.int (1 : Int32)), .val (.ref w_TABLE), .val (.ref w_TABLE)] [])) _
            refine XS.aload X81.here hx rfl (hb hby at_28) rfl rfl ?_
            show Steps p.tables e below (T81.setTop (mkF m 30 #[.val (.int p1), .val (.int p2), .val (.int (1 : Int32)), .val (.int (1 : Int32)), .val (.ref w_TABLE), .val (.ref w_TABLE)] [(.ref w_TABLE)])) _
            refine XS.aload X81.here hx rfl (hb hby at_30) rfl rfl ?_
            show Steps p.tables e below (T81.setTop (mkF m 32 #[.val (.int p1), .val (.int p2), .val (.int (1 : Int32)), .val (.int (1 : Int32)), .val (.ref w_TABLE), .val (.ref w_TABLE)] [(.ref w_TABLE), (.ref w_TABLE)])) _
            refine st83.trans ?_
            show Steps p.tables e below (T83.setTop (mkF m 35 #[.val (.int p1), .val (.int p2), .val (.int (1 : Int32)), .val (.int (1 : Int32)), .val (.ref w_TABLE), .val (.ref w_TABLE)] [(.int (1 : Int32))])) _
            refine XS.iloadN X83.here hx rfl (hb hby at_35) rfl ?_
            show Steps p.tables e below (T83.setTop (mkF m 36 #[.val (.int p1), .val (.int p2), .val (.int (1 : Int32)), .val (.int (1 : Int32)), .val (.ref w_TABLE), .val (.ref w_TABLE)] [(.int (1 : Int32)), (.int (1 : Int32))])) _
            refine XS.iloadN X83.here hx rfl (hb hby at_36) rfl ?_
            show Steps p.tables e below (T83.setTop (mkF m 37 #[.val (.int p1), .val (.int p2), .val (.int (1 : Int32)), .val (.int (1 : Int32)), .val (.ref w_TABLE), .val (.ref w_TABLE)] [(.int (1 : Int32)), (.int (1 : Int32)), (.int (1 : Int32))])) _
            refine st85 _ ?_
            show Steps p.tables e below (T85.setTop (mkF m 40 #[.val (.int p1), .val (.int p2), .val (.int (1 : Int32)), .val (.int (1 : Int32)), .val (.ref w_TABLE), .val (.ref w_TABLE)] [(.int (1 : Int32)), (.int (1 : Int32))])) _
            refine XS.icmpNo X85.here hx rfl (hb hby at_40) rfl (teq (by decide : (1 : Int32) = (1 : Int32))).2 ?_
            show Steps p.tables e below (T85.setTop (mkF m 43 #[.val (.int p1), .val (.int p2), .val (.int (1 : Int32)), .val (.int (1 : Int32)), .val (.ref w_TABLE), .val (.ref w_TABLE)] [])) _
            refine XS.iconst X85.here hx rfl (hb hby at_43) ?_
            show Steps p.tables e below (T85.setTop (mkF m 44 #[.val (.int p1), .val (.int p2), .val (.int (1 : Int32)), .val (.int (1 : Int32)), .val (.ref w_TABLE), .val (.ref w_TABLE)] [(.int (1 : Int32))])) _
            refine XS.goto X85.here hx rfl (pc0 := 44) (pc' := 48) rfl (hb hby at_44) (by decide) (by decide) ?_
            show Steps p.tables e below (T85.setTop (mkF m 48 #[.val (.int p1), .val (.int p2), .val (.int (1 : Int32)), .val (.int (1 : Int32)), .val (.ref w_TABLE), .val (.ref w_TABLE)] [(.int (1 : Int32))])) _
            exact retN X85 hx (t := .boolean) Bd.returns (by simp) (hb hby at_48) hr
          · show own_Q0 Z p1 p2 w_INTENTION w_TABLE w_NEXT_KEY w_RECORD w_IMPLICIT w_GAP w_INSERT_INTENTION h0 n0 _ T85.heap _
            rw [e85]
            exact ⟨(by rw [own_f0, if_neg hc1, if_pos hc9, if_neg hc10, if_pos hc11]), N86⟩
        ·
          by_cases hc12 : ((p2 &&& (2147483647 : Int32)) - ((p2 &&& (2147483647 : Int32)) / (7 : Int32)) * (7 : Int32)) = (2 : Int32)
          ·
            have k87 : ∀ t, Steps p.tables e below (s₁.setTop (mkF m 15 #[.val (.int p1), .val (.int p2), .val (.int (1 : Int32)), .unset, .unset, .unset] [(.int (2 : Int32))])) t → Steps p.tables e below (s₁.setTop (entryFrame m #[(.int p1), (.int p2)] maxLocals)) t := by
              intro t kt
              refine k68 t ?_
              rw [hc12]
              exact kt
            obtain ⟨v88, _, ⟨T88, L88, k88, n88⟩, -, X88, ⟨Lc88, hQ88, l88, y88, z88⟩, st88⟩ := Jvm.LawKit.callS X0 hx (y := (⟨"com/example/kerb/kerb/txn/LockKindCoversPinLaw", "pick", "(I)Lcom/example/kerb/kerb/txn/LockKind;"⟩ : MethodName)) hown (mvT hZ (hw _ (List.mem_of_getElem? (i := 1) rfl))) (mvT hZ (hw _ (List.mem_of_getElem? (i := 2) rfl))) (mvT hZ (hw _ (List.mem_of_getElem? (i := 3) rfl))) (mvT hZ (hw _ (List.mem_of_getElem? (i := 4) rfl))) (by decide) (backOf (W := 0) (own_rm1 l Z a0 hw [] (1 : Int32) w_INTENTION w_TABLE w_NEXT_KEY w_RECORD w_IMPLICIT w_GAP w_INSERT_INTENTION h0 n0 Z0 S_INTENTION S_TABLE S_NEXT_KEY S_RECORD S_IMPLICIT S_GAP S_INSERT_INTENTION) hZ (hw _ (List.mem_of_getElem? (i := 4) rfl)) (hw _ (List.mem_of_getElem? (i := 3) rfl)) (by decide) (by decide)) (g := (mkF m 17 #[.val (.int p1), .val (.int p2), .val (.int (1 : Int32)), .val (.int (2 : Int32)), .unset, .unset] [(.int (1 : Int32))])) rfl (by rw [hml]; rfl) (argsL := [(.int (1 : Int32))]) (rest := []) (lenOf own_pd93 rfl) rfl (by show 2 * 0 + _ ≤ _; exact Nat.le_of_eq rfl) (hb hby at_17) (fun _ _ => ⟨rfl, e0, (by decide : 0 + 0 ≤ _), (by decide : 0 + 0 ≤ _)⟩)
            dsimp only [Pt.U, Pt.locs, Pt.cells, Pt.slots] at X88 l88 y88 z88 st88 hQ88
            subst l88 y88 z88
            obtain ⟨hv88, N88q, e88⟩ := hQ88
            have N89 := Fr.app N0 N88q
            rw [show (own_f1 (1 : Int32) w_INTENTION w_TABLE w_NEXT_KEY w_RECORD w_IMPLICIT w_GAP w_INSERT_INTENTION) = w_TABLE from by first | rfl | decide | simp [own_f1]] at hv88
            subst hv88
            obtain ⟨v90, _, ⟨T90, L90, k90, n90⟩, -, X90, ⟨Lc90, hQ90, l90, y90, z90⟩, st90⟩ := Jvm.LawKit.callS X88 hx (y := (⟨"com/example/kerb/kerb/txn/LockKindCoversPinLaw", "pick", "(I)Lcom/example/kerb/kerb/txn/LockKind;"⟩ : MethodName)) hown (mvT hZ (hw _ (List.mem_of_getElem? (i := 1) rfl))) (mvT hZ (hw _ (List.mem_of_getElem? (i := 2) rfl))) (mvT hZ (hw _ (List.mem_of_getElem? (i := 3) rfl))) (mvT hZ (hw _ (List.mem_of_getElem? (i := 4) rfl))) (by decide) (backOf (W := 0) (own_rm1 l Z a0 hw [] (2 : Int32) w_INTENTION w_TABLE w_NEXT_KEY w_RECORD w_IMPLICIT w_GAP w_INSERT_INTENTION h0 n0 Z0 S_INTENTION S_TABLE S_NEXT_KEY S_RECORD S_IMPLICIT S_GAP S_INSERT_INTENTION) hZ (hw _ (List.mem_of_getElem? (i := 4) rfl)) (hw _ (List.mem_of_getElem? (i := 3) rfl)) (by decide) (by decide)) (g := (mkF m 23 #[.val (.int p1), .val (.int p2), .val (.int (1 : Int32)), .val (.int (2 : Int32)), .val (.ref w_TABLE), .unset] [(.int (2 : Int32))])) rfl (by rw [hml]; rfl) (argsL := [(.int (2 : Int32))]) (rest := []) (lenOf own_pd93 rfl) rfl (by show 2 * 0 + _ ≤ _; exact Nat.le_of_eq rfl) (hb hby at_23) (fun _ _ => ⟨rfl, e88, (by decide : 0 + 0 ≤ _), (by decide : 0 + 0 ≤ _)⟩)
            dsimp only [Pt.U, Pt.locs, Pt.cells, Pt.slots] at X90 l90 y90 z90 st90 hQ90
            subst l90 y90 z90
            obtain ⟨hv90, N90q, e90⟩ := hQ90
            have N91 := Fr.app N89 N90q
            rw [show (own_f1 (2 : Int32) w_INTENTION w_TABLE w_NEXT_KEY w_RECORD w_IMPLICIT w_GAP w_INSERT_INTENTION) = w_NEXT_KEY from by first | rfl | decide | simp [own_f1]] at hv90
            subst hv90
            obtain ⟨cq92, kq92, q92a, q92b, q92c⟩ := isOf hZ e90 E_w_TABLE
            obtain ⟨v92, _, ⟨T92, L92, k92, n92⟩, -, X92, ⟨Lc92, hQ92, l92, y92, z92⟩, st92⟩ := X90.virtualBack hx (y := (⟨"com/example/kerb/kerb/txn/LockKind", "covers", "(Lcom/example/kerb/kerb/txn/LockKind;)Z"⟩ : MethodName)) (z := (⟨"com/example/kerb/kerb/txn/LockKind", "covers", "(Lcom/example/kerb/kerb/txn/LockKind;)Z"⟩ : MethodName)) hown (mvT hZ (hw _ (List.mem_of_getElem? (i := 10) rfl))) (mvT hZ (hw _ (List.mem_of_getElem? (i := 11) rfl))) (notFace_of_selects (args := #[]) (mvT hZ (hw _ (List.mem_of_getElem? (i := 13) rfl)))) (mvT hZ (hw _ (List.mem_of_getElem? (i := 13) rfl))) (mvT hZ (hw _ (List.mem_of_getElem? (i := 12) rfl))) (by decide) (backOf (W := 0) (own_rm2 l Z a0 hw [] w_TABLE w_NEXT_KEY (0 : Int32) w_NEXT_KEY w_GAP w_RECORD w_IMPLICIT h0 n0 Z0 F_coversRecord_w_TABLE S_NEXT_KEY S_GAP S_RECORD S_IMPLICIT) hZ (hw _ (List.mem_of_getElem? (i := 14) rfl)) (hw _ (List.mem_of_getElem? (i := 6) rfl)) (by decide) (by decide)) q92a q92c (g := (mkF m 32 #[.val (.int p1), .val (.int p2), .val (.int (1 : Int32)), .val (.int (2 : Int32)), .val (.ref w_TABLE), .val (.ref w_NEXT_KEY)] [(.ref w_NEXT_KEY), (.ref w_TABLE)])) rfl (by rw [hml]; rfl) (Steps.refl _) (argsL := [(.ref w_NEXT_KEY)]) (rest := []) (lenOf own_pd94 rfl) rfl (by show 2 * 0 + _ ≤ _; exact Nat.le_of_eq rfl) (hb hby at_32) (fun _ _ => ⟨rfl, e90, (by decide : 0 + 0 ≤ _), (by decide : 0 + 0 ≤ _)⟩)
            dsimp only [Pt.U, Pt.locs, Pt.cells, Pt.slots] at X92 l92 y92 z92 st92 hQ92
            subst l92 y92 z92
            obtain ⟨hv92, N92q, e92⟩ := hQ92
            have N93 := Fr.app N91 N92q
            rw [show (own_f2 w_TABLE w_NEXT_KEY (0 : Int32) w_NEXT_KEY w_GAP w_RECORD w_IMPLICIT) = (0 : Int32) from by first | rfl | decide | simp [own_f2, ne_TABLE_NEXT_KEY]] at hv92
            subst hv92
            obtain ⟨v94, _, ⟨T94, L94, k94, n94⟩, -, X94, ⟨Lc94, hQ94, l94, y94, z94⟩, st94⟩ := Jvm.LawKit.callS X92 hx (y := (⟨"com/example/kerb/kerb/txn/LockKindCoversPinLaw", "expected", "(II)Z"⟩ : MethodName)) hown (mvT hZ (hw _ (List.mem_of_getElem? (i := 19) rfl))) (mvT hZ (hw _ (List.mem_of_getElem? (i := 20) rfl))) (mvT hZ (hw _ (List.mem_of_getElem? (i := 3) rfl))) (mvT hZ (hw _ (List.mem_of_getElem? (i := 21) rfl))) (by decide) (backOf (W := 1) (own_rm3 l Z a0 hw [] (1 : Int32) (2 : Int32) h0 n0 Z0) hZ (hw _ (List.mem_of_getElem? (i := 21) rfl)) (hw _ (List.mem_of_getElem? (i := 3) rfl)) (by decide) (by decide)) (g := (mkF m 37 #[.val (.int p1), .val (.int p2), .val (.int (1 : Int32)), .val (.int (2 : Int32)), .val (.ref w_TABLE), .val (.ref w_NEXT_KEY)] [(.int (2 : Int32)), (.int (1 : Int32)), (.int (0 : Int32))])) rfl (by rw [hml]; rfl) (argsL := [(.int (1 : Int32)), (.int (2 : Int32))]) (rest := [(.int (0 : Int32))]) (lenOf own_pd95 rfl) rfl (by show 2 * 0 + _ ≤ _; exact Nat.le_of_eq rfl) (hb hby at_37) (fun _ _ => ⟨rfl, e92, (by decide : 0 + 0 ≤ _), (by decide : 0 + 0 ≤ _)⟩)
            dsimp only [Pt.U, Pt.locs, Pt.cells, Pt.slots] at X94 l94 y94 z94 st94 hQ94
            subst l94 y94 z94
            obtain ⟨hv94, N94q, e94⟩ := hQ94
            have N95 := Fr.app N93 N94q
            rw [show (own_f3 (1 : Int32) (2 : Int32)) = (0 : Int32) from by first | rfl | decide | simp [own_f3]] at hv94
            subst hv94
            obtain ⟨fs, hr, hrun, hended, hW, hsame⟩ := X94.leave (v := some (.int (1 : Int32))) (fun h => by rw [Bd.returns] at h; cases h)
            refine ⟨_, _, k87 _ ?_, hrun, hended, _, _, rfl, ?_, ⟨_, rfl⟩, hW, hsame.mono (by decide) (by decide)⟩
            · show Steps p.tables e below (s₁.setTop (mkF m 15 #[.val (.int p1), .val (.int p2), .val (.int (1 : Int32)), .unset, .unset, .unset] [(.int (2 : Int32))])) _
              refine XS.istoreN X0.here hx rfl (hb hby at_15) rfl (l' := #[.val (.int p1), .val (.int p2), .val (.int (1 : Int32)), .val (.int (2 : Int32)), .unset, .unset]) rfl ?_
              show Steps p.tables e below (s₁.setTop (mkF m 16 #[.val (.int p1), .val (.int p2), .val (.int (1 : Int32)), .val (.int (2 : Int32)), .unset, .unset] [])) _
              refine XS.iloadN X0.here hx rfl (hb hby at_16) rfl ?_
              show Steps p.tables e below (s₁.setTop (mkF m 17 #[.val (.int p1), .val (.int p2), .val (.int (1 : Int32)), .val (.int (2 : Int32)), .unset, .unset] [(.int (1 : Int32))])) _
              refine st88 _ ?_
              show Steps p.tables e below (T88.setTop (mkF m 20 #[.val (.int p1), .val (.int p2), .val (.int (1 : Int32)), .val (.int (2 : Int32)), .unset, .unset] [(.ref w_TABLE)])) _
              refine XS.astore X88.here hx rfl (hb hby at_20) rfl rfl (l' := #[.val (.int p1), .val (.int p2), .val (.int (1 : Int32)), .val (.int (2 : Int32)), .val (.ref w_TABLE), .unset]) rfl ?_
              show Steps p.tables e below (T88.setTop (mkF m 22 #[.val (.int p1), .val (.int p2), .val (.int (1 : Int32)), .val (.int (2 : Int32)), .val (.ref w_TABLE), .unset] [])) _
              refine XS.iloadN X88.here hx rfl (hb hby at_22) rfl ?_
              show Steps p.tables e below (T88.setTop (mkF m 23 #[.val (.int p1), .val (.int p2), .val (.int (1 : Int32)), .val (.int (2 : Int32)), .val (.ref w_TABLE), .unset] [(.int (2 : Int32))])) _
              refine st90 _ ?_
              show Steps p.tables e below (T90.setTop (mkF m 26 #[.val (.int p1), .val (.int p2), .val (.int (1 : Int32)), .val (.int (2 : Int32)), .val (.ref w_TABLE), .unset] [(.ref w_NEXT_KEY)])) _
              refine XS.astore X90.here hx rfl (hb hby at_26) rfl rfl (l' := #[.val (.int p1), .val (.int p2), .val (.int (1 : Int32)), .val (.int (2 : Int32)), .val (.ref w_TABLE), .val (.ref w_NEXT_KEY)]) rfl ?_
              show Steps p.tables e below (T90.setTop (mkF m 28 #[.val (.int p1), .val (.int p2), .val (.int (1 : Int32)), .val (.int (2 : Int32)), .val (.ref w_TABLE), .val (.ref w_NEXT_KEY)] [])) _
              refine XS.aload X90.here hx rfl (hb hby at_28) rfl rfl ?_
              show Steps p.tables e below (T90.setTop (mkF m 30 #[.val (.int p1), .val (.int p2), .val (.int (1 : Int32)), .val (.int (2 : Int32)), .val (.ref w_TABLE), .val (.ref w_NEXT_KEY)] [(.ref w_TABLE)])) _
              refine XS.aload X90.here hx rfl (hb hby at_30) rfl rfl ?_
              show Steps p.tables e below (T90.setTop (mkF m 32 #[.val (.int p1), .val (.int p2), .val (.int (1 : Int32)), .val (.int (2 : Int32)), .val (.ref w_TABLE), .val (.ref w_NEXT_KEY)] [(.ref w_NEXT_KEY), (.ref w_TABLE)])) _
              refine st92.trans ?_
              show Steps p.tables e below (T92.setTop (mkF m 35 #[.val (.int p1), .val (.int p2), .val (.int (1 : Int32)), .val (.int (2 : Int32)), .val (.ref w_TABLE), .val (.ref w_NEXT_KEY)] [(.int (0 : Int32))])) _
              refine XS.iloadN X92.here hx rfl (hb hby at_35) rfl ?_
              show Steps p.tables e below (T92.setTop (mkF m 36 #[.val (.int p1), .val (.int p2), .val (.int (1 : Int32)), .val (.int (2 : Int32)), .val (.ref w_TABLE), .val (.ref w_NEXT_KEY)] [(.int (1 : Int32)), (.int (0 : Int32))])) _
              refine XS.iloadN X92.here hx rfl (hb hby at_36) rfl ?_
              show Steps p.tables e below (T92.setTop (mkF m 37 #[.val (.int p1), .val (.int p2), .val (.int (1 : Int32)), .val (.int (2 : Int32)), .val (.ref w_TABLE), .val (.ref w_NEXT_KEY)] [(.int (2 : Int32)), (.int (1 : Int32)), (.int (0 : Int32))])) _
              refine st94 _ ?_
              show Steps p.tables e below (T94.setTop (mkF m 40 #[.val (.int p1), .val (.int p2), .val (.int (1 : Int32)), .val (.int (2 : Int32)), .val (.ref w_TABLE), .val (.ref w_NEXT_KEY)] [(.int (0 : Int32)), (.int (0 : Int32))])) _
              refine XS.icmpNo X94.here hx rfl (hb hby at_40) rfl (teq (by decide : (0 : Int32) = (0 : Int32))).2 ?_
              show Steps p.tables e below (T94.setTop (mkF m 43 #[.val (.int p1), .val (.int p2), .val (.int (1 : Int32)), .val (.int (2 : Int32)), .val (.ref w_TABLE), .val (.ref w_NEXT_KEY)] [])) _
              refine XS.iconst X94.here hx rfl (hb hby at_43) ?_
              show Steps p.tables e below (T94.setTop (mkF m 44 #[.val (.int p1), .val (.int p2), .val (.int (1 : Int32)), .val (.int (2 : Int32)), .val (.ref w_TABLE), .val (.ref w_NEXT_KEY)] [(.int (1 : Int32))])) _
              refine XS.goto X94.here hx rfl (pc0 := 44) (pc' := 48) rfl (hb hby at_44) (by decide) (by decide) ?_
              show Steps p.tables e below (T94.setTop (mkF m 48 #[.val (.int p1), .val (.int p2), .val (.int (1 : Int32)), .val (.int (2 : Int32)), .val (.ref w_TABLE), .val (.ref w_NEXT_KEY)] [(.int (1 : Int32))])) _
              exact retN X94 hx (t := .boolean) Bd.returns (by simp) (hb hby at_48) hr
            · show own_Q0 Z p1 p2 w_INTENTION w_TABLE w_NEXT_KEY w_RECORD w_IMPLICIT w_GAP w_INSERT_INTENTION h0 n0 _ T94.heap _
              rw [e94]
              exact ⟨(by rw [own_f0, if_neg hc1, if_pos hc9, if_neg hc10, if_neg hc11, if_pos hc12]), N95⟩
          ·
            by_cases hc13 : ((p2 &&& (2147483647 : Int32)) - ((p2 &&& (2147483647 : Int32)) / (7 : Int32)) * (7 : Int32)) = (3 : Int32)
            ·
              have k96 : ∀ t, Steps p.tables e below (s₁.setTop (mkF m 15 #[.val (.int p1), .val (.int p2), .val (.int (1 : Int32)), .unset, .unset, .unset] [(.int (3 : Int32))])) t → Steps p.tables e below (s₁.setTop (entryFrame m #[(.int p1), (.int p2)] maxLocals)) t := by
                intro t kt
                refine k68 t ?_
                rw [hc13]
                exact kt
              obtain ⟨v97, _, ⟨T97, L97, k97, n97⟩, -, X97, ⟨Lc97, hQ97, l97, y97, z97⟩, st97⟩ := Jvm.LawKit.callS X0 hx (y := (⟨"com/example/kerb/kerb/txn/LockKindCoversPinLaw", "pick", "(I)Lcom/example/kerb/kerb/txn/LockKind;"⟩ : MethodName)) hown (mvT hZ (hw _ (List.mem_of_getElem? (i := 1) rfl))) (mvT hZ (hw _ (List.mem_of_getElem? (i := 2) rfl))) (mvT hZ (hw _ (List.mem_of_getElem? (i := 3) rfl))) (mvT hZ (hw _ (List.mem_of_getElem? (i := 4) rfl))) (by decide) (backOf (W := 0) (own_rm1 l Z a0 hw [] (1 : Int32) w_INTENTION w_TABLE w_NEXT_KEY w_RECORD w_IMPLICIT w_GAP w_INSERT_INTENTION h0 n0 Z0 S_INTENTION S_TABLE S_NEXT_KEY S_RECORD S_IMPLICIT S_GAP S_INSERT_INTENTION) hZ (hw _ (List.mem_of_getElem? (i := 4) rfl)) (hw _ (List.mem_of_getElem? (i := 3) rfl)) (by decide) (by decide)) (g := (mkF m 17 #[.val (.int p1), .val (.int p2), .val (.int (1 : Int32)), .val (.int (3 : Int32)), .unset, .unset] [(.int (1 : Int32))])) rfl (by rw [hml]; rfl) (argsL := [(.int (1 : Int32))]) (rest := []) (lenOf own_pd93 rfl) rfl (by show 2 * 0 + _ ≤ _; exact Nat.le_of_eq rfl) (hb hby at_17) (fun _ _ => ⟨rfl, e0, (by decide : 0 + 0 ≤ _), (by decide : 0 + 0 ≤ _)⟩)
              dsimp only [Pt.U, Pt.locs, Pt.cells, Pt.slots] at X97 l97 y97 z97 st97 hQ97
              subst l97 y97 z97
              obtain ⟨hv97, N97q, e97⟩ := hQ97
              have N98 := Fr.app N0 N97q
              rw [show (own_f1 (1 : Int32) w_INTENTION w_TABLE w_NEXT_KEY w_RECORD w_IMPLICIT w_GAP w_INSERT_INTENTION) = w_TABLE from by first | rfl | decide | simp [own_f1]] at hv97
              subst hv97
              obtain ⟨v99, _, ⟨T99, L99, k99, n99⟩, -, X99, ⟨Lc99, hQ99, l99, y99, z99⟩, st99⟩ := Jvm.LawKit.callS X97 hx (y := (⟨"com/example/kerb/kerb/txn/LockKindCoversPinLaw", "pick", "(I)Lcom/example/kerb/kerb/txn/LockKind;"⟩ : MethodName)) hown (mvT hZ (hw _ (List.mem_of_getElem? (i := 1) rfl))) (mvT hZ (hw _ (List.mem_of_getElem? (i := 2) rfl))) (mvT hZ (hw _ (List.mem_of_getElem? (i := 3) rfl))) (mvT hZ (hw _ (List.mem_of_getElem? (i := 4) rfl))) (by decide) (backOf (W := 0) (own_rm1 l Z a0 hw [] (3 : Int32) w_INTENTION w_TABLE w_NEXT_KEY w_RECORD w_IMPLICIT w_GAP w_INSERT_INTENTION h0 n0 Z0 S_INTENTION S_TABLE S_NEXT_KEY S_RECORD S_IMPLICIT S_GAP S_INSERT_INTENTION) hZ (hw _ (List.mem_of_getElem? (i := 4) rfl)) (hw _ (List.mem_of_getElem? (i := 3) rfl)) (by decide) (by decide)) (g := (mkF m 23 #[.val (.int p1), .val (.int p2), .val (.int (1 : Int32)), .val (.int (3 : Int32)), .val (.ref w_TABLE), .unset] [(.int (3 : Int32))])) rfl (by rw [hml]; rfl) (argsL := [(.int (3 : Int32))]) (rest := []) (lenOf own_pd93 rfl) rfl (by show 2 * 0 + _ ≤ _; exact Nat.le_of_eq rfl) (hb hby at_23) (fun _ _ => ⟨rfl, e97, (by decide : 0 + 0 ≤ _), (by decide : 0 + 0 ≤ _)⟩)
              dsimp only [Pt.U, Pt.locs, Pt.cells, Pt.slots] at X99 l99 y99 z99 st99 hQ99
              subst l99 y99 z99
              obtain ⟨hv99, N99q, e99⟩ := hQ99
              have N100 := Fr.app N98 N99q
              rw [show (own_f1 (3 : Int32) w_INTENTION w_TABLE w_NEXT_KEY w_RECORD w_IMPLICIT w_GAP w_INSERT_INTENTION) = w_RECORD from by first | rfl | decide | simp [own_f1]] at hv99
              subst hv99
              obtain ⟨cq101, kq101, q101a, q101b, q101c⟩ := isOf hZ e99 E_w_TABLE
              obtain ⟨v101, _, ⟨T101, L101, k101, n101⟩, -, X101, ⟨Lc101, hQ101, l101, y101, z101⟩, st101⟩ := X99.virtualBack hx (y := (⟨"com/example/kerb/kerb/txn/LockKind", "covers", "(Lcom/example/kerb/kerb/txn/LockKind;)Z"⟩ : MethodName)) (z := (⟨"com/example/kerb/kerb/txn/LockKind", "covers", "(Lcom/example/kerb/kerb/txn/LockKind;)Z"⟩ : MethodName)) hown (mvT hZ (hw _ (List.mem_of_getElem? (i := 10) rfl))) (mvT hZ (hw _ (List.mem_of_getElem? (i := 11) rfl))) (notFace_of_selects (args := #[]) (mvT hZ (hw _ (List.mem_of_getElem? (i := 13) rfl)))) (mvT hZ (hw _ (List.mem_of_getElem? (i := 13) rfl))) (mvT hZ (hw _ (List.mem_of_getElem? (i := 12) rfl))) (by decide) (backOf (W := 0) (own_rm2 l Z a0 hw [] w_TABLE w_RECORD (0 : Int32) w_NEXT_KEY w_GAP w_RECORD w_IMPLICIT h0 n0 Z0 F_coversRecord_w_TABLE S_NEXT_KEY S_GAP S_RECORD S_IMPLICIT) hZ (hw _ (List.mem_of_getElem? (i := 14) rfl)) (hw _ (List.mem_of_getElem? (i := 6) rfl)) (by decide) (by decide)) q101a q101c (g := (mkF m 32 #[.val (.int p1), .val (.int p2), .val (.int (1 : Int32)), .val (.int (3 : Int32)), .val (.ref w_TABLE), .val (.ref w_RECORD)] [(.ref w_RECORD), (.ref w_TABLE)])) rfl (by rw [hml]; rfl) (Steps.refl _) (argsL := [(.ref w_RECORD)]) (rest := []) (lenOf own_pd94 rfl) rfl (by show 2 * 0 + _ ≤ _; exact Nat.le_of_eq rfl) (hb hby at_32) (fun _ _ => ⟨rfl, e99, (by decide : 0 + 0 ≤ _), (by decide : 0 + 0 ≤ _)⟩)
              dsimp only [Pt.U, Pt.locs, Pt.cells, Pt.slots] at X101 l101 y101 z101 st101 hQ101
              subst l101 y101 z101
              obtain ⟨hv101, N101q, e101⟩ := hQ101
              have N102 := Fr.app N100 N101q
              rw [show (own_f2 w_TABLE w_RECORD (0 : Int32) w_NEXT_KEY w_GAP w_RECORD w_IMPLICIT) = (0 : Int32) from by first | rfl | decide | simp [own_f2, ne_TABLE_NEXT_KEY, ne_TABLE_RECORD]] at hv101
              subst hv101
              obtain ⟨v103, _, ⟨T103, L103, k103, n103⟩, -, X103, ⟨Lc103, hQ103, l103, y103, z103⟩, st103⟩ := Jvm.LawKit.callS X101 hx (y := (⟨"com/example/kerb/kerb/txn/LockKindCoversPinLaw", "expected", "(II)Z"⟩ : MethodName)) hown (mvT hZ (hw _ (List.mem_of_getElem? (i := 19) rfl))) (mvT hZ (hw _ (List.mem_of_getElem? (i := 20) rfl))) (mvT hZ (hw _ (List.mem_of_getElem? (i := 3) rfl))) (mvT hZ (hw _ (List.mem_of_getElem? (i := 21) rfl))) (by decide) (backOf (W := 1) (own_rm3 l Z a0 hw [] (1 : Int32) (3 : Int32) h0 n0 Z0) hZ (hw _ (List.mem_of_getElem? (i := 21) rfl)) (hw _ (List.mem_of_getElem? (i := 3) rfl)) (by decide) (by decide)) (g := (mkF m 37 #[.val (.int p1), .val (.int p2), .val (.int (1 : Int32)), .val (.int (3 : Int32)), .val (.ref w_TABLE), .val (.ref w_RECORD)] [(.int (3 : Int32)), (.int (1 : Int32)), (.int (0 : Int32))])) rfl (by rw [hml]; rfl) (argsL := [(.int (1 : Int32)), (.int (3 : Int32))]) (rest := [(.int (0 : Int32))]) (lenOf own_pd95 rfl) rfl (by show 2 * 0 + _ ≤ _; exact Nat.le_of_eq rfl) (hb hby at_37) (fun _ _ => ⟨rfl, e101, (by decide : 0 + 0 ≤ _), (by decide : 0 + 0 ≤ _)⟩)
              dsimp only [Pt.U, Pt.locs, Pt.cells, Pt.slots] at X103 l103 y103 z103 st103 hQ103
              subst l103 y103 z103
              obtain ⟨hv103, N103q, e103⟩ := hQ103
              have N104 := Fr.app N102 N103q
              rw [show (own_f3 (1 : Int32) (3 : Int32)) = (0 : Int32) from by first | rfl | decide | simp [own_f3]] at hv103
              subst hv103
              obtain ⟨fs, hr, hrun, hended, hW, hsame⟩ := X103.leave (v := some (.int (1 : Int32))) (fun h => by rw [Bd.returns] at h; cases h)
              refine ⟨_, _, k96 _ ?_, hrun, hended, _, _, rfl, ?_, ⟨_, rfl⟩, hW, hsame.mono (by decide) (by decide)⟩
              · show Steps p.tables e below (s₁.setTop (mkF m 15 #[.val (.int p1), .val (.int p2), .val (.int (1 : Int32)), .unset, .unset, .unset] [(.int (3 : Int32))])) _
                refine XS.istoreN X0.here hx rfl (hb hby at_15) rfl (l' := #[.val (.int p1), .val (.int p2), .val (.int (1 : Int32)), .val (.int (3 : Int32)), .unset, .unset]) rfl ?_
                show Steps p.tables e below (s₁.setTop (mkF m 16 #[.val (.int p1), .val (.int p2), .val (.int (1 : Int32)), .val (.int (3 : Int32)), .unset, .unset] [])) _
                refine XS.iloadN X0.here hx rfl (hb hby at_16) rfl ?_
                show Steps p.tables e below (s₁.setTop (mkF m 17 #[.val (.int p1), .val (.int p2), .val (.int (1 : Int32)), .val (.int (3 : Int32)), .unset, .unset] [(.int (1 : Int32))])) _
                refine st97 _ ?_
                show Steps p.tables e below (T97.setTop (mkF m 20 #[.val (.int p1), .val (.int p2), .val (.int (1 : Int32)), .val (.int (3 : Int32)), .unset, .unset] [(.ref w_TABLE)])) _
                refine XS.astore X97.here hx rfl (hb hby at_20) rfl rfl (l' := #[.val (.int p1), .val (.int p2), .val (.int (1 : Int32)), .val (.int (3 : Int32)), .val (.ref w_TABLE), .unset]) rfl ?_
                show Steps p.tables e below (T97.setTop (mkF m 22 #[.val (.int p1), .val (.int p2), .val (.int (1 : Int32)), .val (.int (3 : Int32)), .val (.ref w_TABLE), .unset] [])) _
                refine XS.iloadN X97.here hx rfl (hb hby at_22) rfl ?_
                show Steps p.tables e below (T97.setTop (mkF m 23 #[.val (.int p1), .val (.int p2), .val (.int (1 : Int32)), .val (.int (3 : Int32)), .val (.ref w_TABLE), .unset] [(.int (3 : Int32))])) _
                refine st99 _ ?_
                show Steps p.tables e below (T99.setTop (mkF m 26 #[.val (.int p1), .val (.int p2), .val (.int (1 : Int32)), .val (.int (3 : Int32)), .val (.ref w_TABLE), .unset] [(.ref w_RECORD)])) _
                refine XS.astore X99.here hx rfl (hb hby at_26) rfl rfl (l' := #[.val (.int p1), .val (.int p2), .val (.int (1 : Int32)), .val (.int (3 : Int32)), .val (.ref w_TABLE), .val (.ref w_RECORD)]) rfl ?_
                show Steps p.tables e below (T99.setTop (mkF m 28 #[.val (.int p1), .val (.int p2), .val (.int (1 : Int32)), .val (.int (3 : Int32)), .val (.ref w_TABLE), .val (.ref w_RECORD)] [])) _
                refine XS.aload X99.here hx rfl (hb hby at_28) rfl rfl ?_
                show Steps p.tables e below (T99.setTop (mkF m 30 #[.val (.int p1), .val (.int p2), .val (.int (1 : Int32)), .val (.int (3 : Int32)), .val (.ref w_TABLE), .val (.ref w_RECORD)] [(.ref w_TABLE)])) _
                refine XS.aload X99.here hx rfl (hb hby at_30) rfl rfl ?_
                show Steps p.tables e below (T99.setTop (mkF m 32 #[.val (.int p1), .val (.int p2), .val (.int (1 : Int32)), .val (.int (3 : Int32)), .val (.ref w_TABLE), .val (.ref w_RECORD)] [(.ref w_RECORD), (.ref w_TABLE)])) _
                refine st101.trans ?_
                show Steps p.tables e below (T101.setTop (mkF m 35 #[.val (.int p1), .val (.int p2), .val (.int (1 : Int32)), .val (.int (3 : Int32)), .val (.ref w_TABLE), .val (.ref w_RECORD)] [(.int (0 : Int32))])) _
                refine XS.iloadN X101.here hx rfl (hb hby at_35) rfl ?_
                show Steps p.tables e below (T101.setTop (mkF m 36 #[.val (.int p1), .val (.int p2), .val (.int (1 : Int32)), .val (.int (3 : Int32)), .val (.ref w_TABLE), .val (.ref w_RECORD)] [(.int (1 : Int32)), (.int (0 : Int32))])) _
                refine XS.iloadN X101.here hx rfl (hb hby at_36) rfl ?_
                show Steps p.tables e below (T101.setTop (mkF m 37 #[.val (.int p1), .val (.int p2), .val (.int (1 : Int32)), .val (.int (3 : Int32)), .val (.ref w_TABLE), .val (.ref w_RECORD)] [(.int (3 : Int32)), (.int (1 : Int32)), (.int (0 : Int32))])) _
                refine st103 _ ?_
                show Steps p.tables e below (T103.setTop (mkF m 40 #[.val (.int p1), .val (.int p2), .val (.int (1 : Int32)), .val (.int (3 : Int32)), .val (.ref w_TABLE), .val (.ref w_RECORD)] [(.int (0 : Int32)), (.int (0 : Int32))])) _
                refine XS.icmpNo X103.here hx rfl (hb hby at_40) rfl (teq (by decide : (0 : Int32) = (0 : Int32))).2 ?_
                show Steps p.tables e below (T103.setTop (mkF m 43 #[.val (.int p1), .val (.int p2), .val (.int (1 : Int32)), .val (.int (3 : Int32)), .val (.ref w_TABLE), .val (.ref w_RECORD)] [])) _
                refine XS.iconst X103.here hx rfl (hb hby at_43) ?_
                show Steps p.tables e below (T103.setTop (mkF m 44 #[.val (.int p1), .val (.int p2), .val (.int (1 : Int32)), .val (.int (3 : Int32)), .val (.ref w_TABLE), .val (.ref w_RECORD)] [(.int (1 : Int32))])) _
                refine XS.goto X103.here hx rfl (pc0 := 44) (pc' := 48) rfl (hb hby at_44) (by decide) (by decide) ?_
                show Steps p.tables e below (T103.setTop (mkF m 48 #[.val (.int p1), .val (.int p2), .val (.int (1 : Int32)), .val (.int (3 : Int32)), .val (.ref w_TABLE), .val (.ref w_RECORD)] [(.int (1 : Int32))])) _
                exact retN X103 hx (t := .boolean) Bd.returns (by simp) (hb hby at_48) hr
              · show own_Q0 Z p1 p2 w_INTENTION w_TABLE w_NEXT_KEY w_RECORD w_IMPLICIT w_GAP w_INSERT_INTENTION h0 n0 _ T103.heap _
                rw [e103]
                exact ⟨(by rw [own_f0, if_neg hc1, if_pos hc9, if_neg hc10, if_neg hc11, if_neg hc12, if_pos hc13]), N104⟩
            ·
              by_cases hc14 : ((p2 &&& (2147483647 : Int32)) - ((p2 &&& (2147483647 : Int32)) / (7 : Int32)) * (7 : Int32)) = (4 : Int32)
              ·
                have k105 : ∀ t, Steps p.tables e below (s₁.setTop (mkF m 15 #[.val (.int p1), .val (.int p2), .val (.int (1 : Int32)), .unset, .unset, .unset] [(.int (4 : Int32))])) t → Steps p.tables e below (s₁.setTop (entryFrame m #[(.int p1), (.int p2)] maxLocals)) t := by
                  intro t kt
                  refine k68 t ?_
                  rw [hc14]
                  exact kt
                obtain ⟨v106, _, ⟨T106, L106, k106, n106⟩, -, X106, ⟨Lc106, hQ106, l106, y106, z106⟩, st106⟩ := Jvm.LawKit.callS X0 hx (y := (⟨"com/example/kerb/kerb/txn/LockKindCoversPinLaw", "pick", "(I)Lcom/example/kerb/kerb/txn/LockKind;"⟩ : MethodName)) hown (mvT hZ (hw _ (List.mem_of_getElem? (i := 1) rfl))) (mvT hZ (hw _ (List.mem_of_getElem? (i := 2) rfl))) (mvT hZ (hw _ (List.mem_of_getElem? (i := 3) rfl))) (mvT hZ (hw _ (List.mem_of_getElem? (i := 4) rfl))) (by decide) (backOf (W := 0) (own_rm1 l Z a0 hw [] (1 : Int32) w_INTENTION w_TABLE w_NEXT_KEY w_RECORD w_IMPLICIT w_GAP w_INSERT_INTENTION h0 n0 Z0 S_INTENTION S_TABLE S_NEXT_KEY S_RECORD S_IMPLICIT S_GAP S_INSERT_INTENTION) hZ (hw _ (List.mem_of_getElem? (i := 4) rfl)) (hw _ (List.mem_of_getElem? (i := 3) rfl)) (by decide) (by decide)) (g := (mkF m 17 #[.val (.int p1), .val (.int p2), .val (.int (1 : Int32)), .val (.int (4 : Int32)), .unset, .unset] [(.int (1 : Int32))])) rfl (by rw [hml]; rfl) (argsL := [(.int (1 : Int32))]) (rest := []) (lenOf own_pd93 rfl) rfl (by show 2 * 0 + _ ≤ _; exact Nat.le_of_eq rfl) (hb hby at_17) (fun _ _ => ⟨rfl, e0, (by decide : 0 + 0 ≤ _), (by decide : 0 + 0 ≤ _)⟩)
                dsimp only [Pt.U, Pt.locs, Pt.cells, Pt.slots] at X106 l106 y106 z106 st106 hQ106
                subst l106 y106 z106
                obtain ⟨hv106, N106q, e106⟩ := hQ106
                have N107 := Fr.app N0 N106q
                rw [show (own_f1 (1 : Int32) w_INTENTION w_TABLE w_NEXT_KEY w_RECORD w_IMPLICIT w_GAP w_INSERT_INTENTION) = w_TABLE from by first | rfl | decide | simp [own_f1]] at hv106
                subst hv106
                obtain ⟨v108, _, ⟨T108, L108, k108, n108⟩, -, X108, ⟨Lc108, hQ108, l108, y108, z108⟩, st108⟩ := Jvm.LawKit.callS X106 hx (y := (⟨"com/example/kerb/kerb/txn/LockKindCoversPinLaw", "pick", "(I)Lcom/example/kerb/kerb/txn/LockKind;"⟩ : MethodName)) hown (mvT hZ (hw _ (List.mem_of_getElem? (i := 1) rfl))) (mvT hZ (hw _ (List.mem_of_getElem? (i := 2) rfl))) (mvT hZ (hw _ (List.mem_of_getElem? (i := 3) rfl))) (mvT hZ (hw _ (List.mem_of_getElem? (i := 4) rfl))) (by decide) (backOf (W := 0) (own_rm1 l Z a0 hw [] (4 : Int32) w_INTENTION w_TABLE w_NEXT_KEY w_RECORD w_IMPLICIT w_GAP w_INSERT_INTENTION h0 n0 Z0 S_INTENTION S_TABLE S_NEXT_KEY S_RECORD S_IMPLICIT S_GAP S_INSERT_INTENTION) hZ (hw _ (List.mem_of_getElem? (i := 4) rfl)) (hw _ (List.mem_of_getElem? (i := 3) rfl)) (by decide) (by decide)) (g := (mkF m 23 #[.val (.int p1), .val (.int p2), .val (.int (1 : Int32)), .val (.int (4 : Int32)), .val (.ref w_TABLE), .unset] [(.int (4 : Int32))])) rfl (by rw [hml]; rfl) (argsL := [(.int (4 : Int32))]) (rest := []) (lenOf own_pd93 rfl) rfl (by show 2 * 0 + _ ≤ _; exact Nat.le_of_eq rfl) (hb hby at_23) (fun _ _ => ⟨rfl, e106, (by decide : 0 + 0 ≤ _), (by decide : 0 + 0 ≤ _)⟩)
                dsimp only [Pt.U, Pt.locs, Pt.cells, Pt.slots] at X108 l108 y108 z108 st108 hQ108
                subst l108 y108 z108
                obtain ⟨hv108, N108q, e108⟩ := hQ108
                have N109 := Fr.app N107 N108q
                rw [show (own_f1 (4 : Int32) w_INTENTION w_TABLE w_NEXT_KEY w_RECORD w_IMPLICIT w_GAP w_INSERT_INTENTION) = w_IMPLICIT from by first | rfl | decide | simp [own_f1]] at hv108
                subst hv108
                obtain ⟨cq110, kq110, q110a, q110b, q110c⟩ := isOf hZ e108 E_w_TABLE
                obtain ⟨v110, _, ⟨T110, L110, k110, n110⟩, -, X110, ⟨Lc110, hQ110, l110, y110, z110⟩, st110⟩ := X108.virtualBack hx (y := (⟨"com/example/kerb/kerb/txn/LockKind", "covers", "(Lcom/example/kerb/kerb/txn/LockKind;)Z"⟩ : MethodName)) (z := (⟨"com/example/kerb/kerb/txn/LockKind", "covers", "(Lcom/example/kerb/kerb/txn/LockKind;)Z"⟩ : MethodName)) hown (mvT hZ (hw _ (List.mem_of_getElem? (i := 10) rfl))) (mvT hZ (hw _ (List.mem_of_getElem? (i := 11) rfl))) (notFace_of_selects (args := #[]) (mvT hZ (hw _ (List.mem_of_getElem? (i := 13) rfl)))) (mvT hZ (hw _ (List.mem_of_getElem? (i := 13) rfl))) (mvT hZ (hw _ (List.mem_of_getElem? (i := 12) rfl))) (by decide) (backOf (W := 0) (own_rm2 l Z a0 hw [] w_TABLE w_IMPLICIT (0 : Int32) w_NEXT_KEY w_GAP w_RECORD w_IMPLICIT h0 n0 Z0 F_coversRecord_w_TABLE S_NEXT_KEY S_GAP S_RECORD S_IMPLICIT) hZ (hw _ (List.mem_of_getElem? (i := 14) rfl)) (hw _ (List.mem_of_getElem? (i := 6) rfl)) (by decide) (by decide)) q110a q110c (g := (mkF m 32 #[.val (.int p1), .val (.int p2), .val (.int (1 : Int32)), .val (.int (4 : Int32)), .val (.ref w_TABLE), .val (.ref w_IMPLICIT)] [(.ref w_IMPLICIT), (.ref w_TABLE)])) rfl (by rw [hml]; rfl) (Steps.refl _) (argsL := [(.ref w_IMPLICIT)]) (rest := []) (lenOf own_pd94 rfl) rfl (by show 2 * 0 + _ ≤ _; exact Nat.le_of_eq rfl) (hb hby at_32) (fun _ _ => ⟨rfl, e108, (by decide : 0 + 0 ≤ _), (by decide : 0 + 0 ≤ _)⟩)
                dsimp only [Pt.U, Pt.locs, Pt.cells, Pt.slots] at X110 l110 y110 z110 st110 hQ110
                subst l110 y110 z110
                obtain ⟨hv110, N110q, e110⟩ := hQ110
                have N111 := Fr.app N109 N110q
                rw [show (own_f2 w_TABLE w_IMPLICIT (0 : Int32) w_NEXT_KEY w_GAP w_RECORD w_IMPLICIT) = (0 : Int32) from by first | rfl | decide | simp [own_f2, ne_TABLE_IMPLICIT, ne_TABLE_NEXT_KEY]] at hv110
                subst hv110
                obtain ⟨v112, _, ⟨T112, L112, k112, n112⟩, -, X112, ⟨Lc112, hQ112, l112, y112, z112⟩, st112⟩ := Jvm.LawKit.callS X110 hx (y := (⟨"com/example/kerb/kerb/txn/LockKindCoversPinLaw", "expected", "(II)Z"⟩ : MethodName)) hown (mvT hZ (hw _ (List.mem_of_getElem? (i := 19) rfl))) (mvT hZ (hw _ (List.mem_of_getElem? (i := 20) rfl))) (mvT hZ (hw _ (List.mem_of_getElem? (i := 3) rfl))) (mvT hZ (hw _ (List.mem_of_getElem? (i := 21) rfl))) (by decide) (backOf (W := 1) (own_rm3 l Z a0 hw [] (1 : Int32) (4 : Int32) h0 n0 Z0) hZ (hw _ (List.mem_of_getElem? (i := 21) rfl)) (hw _ (List.mem_of_getElem? (i := 3) rfl)) (by decide) (by decide)) (g := (mkF m 37 #[.val (.int p1), .val (.int p2), .val (.int (1 : Int32)), .val (.int (4 : Int32)), .val (.ref w_TABLE), .val (.ref w_IMPLICIT)] [(.int (4 : Int32)), (.int (1 : Int32)), (.int (0 : Int32))])) rfl (by rw [hml]; rfl) (argsL := [(.int (1 : Int32)), (.int (4 : Int32))]) (rest := [(.int (0 : Int32))]) (lenOf own_pd95 rfl) rfl (by show 2 * 0 + _ ≤ _; exact Nat.le_of_eq rfl) (hb hby at_37) (fun _ _ => ⟨rfl, e110, (by decide : 0 + 0 ≤ _), (by decide : 0 + 0 ≤ _)⟩)
                dsimp only [Pt.U, Pt.locs, Pt.cells, Pt.slots] at X112 l112 y112 z112 st112 hQ112
                subst l112 y112 z112
                obtain ⟨hv112, N112q, e112⟩ := hQ112
                have N113 := Fr.app N111 N112q
                rw [show (own_f3 (1 : Int32) (4 : Int32)) = (0 : Int32) from by first | rfl | decide | simp [own_f3]] at hv112
                subst hv112
                obtain ⟨fs, hr, hrun, hended, hW, hsame⟩ := X112.leave (v := some (.int (1 : Int32))) (fun h => by rw [Bd.returns] at h; cases h)
                refine ⟨_, _, k105 _ ?_, hrun, hended, _, _, rfl, ?_, ⟨_, rfl⟩, hW, hsame.mono (by decide) (by decide)⟩
                · show Steps p.tables e below (s₁.setTop (mkF m 15 #[.val (.int p1), .val (.int p2), .val (.int (1 : Int32)), .unset, .unset, .unset] [(.int (4 : Int32))])) _
                  refine XS.istoreN X0.here hx rfl (hb hby at_15) rfl (l' := #[.val (.int p1), .val (.int p2), .val (.int (1 : Int32)), .val (.int (4 : Int32)), .unset, .unset]) rfl ?_
                  show Steps p.tables e below (s₁.setTop (mkF m 16 #[.val (.int p1), .val (.int p2), .val (.int (1 : Int32)), .val (.int (4 : Int32)), .unset, .unset] [])) _
                  refine XS.iloadN X0.here hx rfl (hb hby at_16) rfl ?_
                  show Steps p.tables e below (s₁.setTop (mkF m 17 #[.val (.int p1), .val (.int p2), .val (.int (1 : Int32)), .val (.int (4 : Int32)), .unset, .unset] [(.int (1 : Int32))])) _
                  refine st106 _ ?_
                  show Steps p.tables e below (T106.setTop (mkF m 20 #[.val (.int p1), .val (.int p2), .val (.int (1 : Int32)), .val (.int (4 : Int32)), .unset, .unset] [(.ref w_TABLE)])) _
                  refine XS.astore X106.here hx rfl (hb hby at_20) rfl rfl (l' := #[.val (.int p1), .val (.int p2), .val (.int (1 : Int32)), .val (.int (4 : Int32)), .val (.ref w_TABLE), .unset]) rfl ?_
                  show Steps p.tables e below (T106.setTop (mkF m 22 #[.val (.int p1), .val (.int p2), .val (.int (1 : Int32)), .val (.int (4 : Int32)), .val (.ref w_TABLE), .unset] [])) _
                  refine XS.iloadN X106.here hx rfl (hb hby at_22) rfl ?_
                  show Steps p.tables e below (T106.setTop (mkF m 23 #[.val (.int p1), .val (.int p2), .val (.int (1 : Int32)), .val (.int (4 : Int32)), .val (.ref w_TABLE), .unset] [(.int (4 : Int32))])) _
                  refine st108 _ ?_
                  show Steps p.tables e below (T108.setTop (mkF m 26 #[.val (.int p1), .val (.int p2), .val (.int (1 : Int32)), .val (.int (4 : Int32)), .val (.ref w_TABLE), .unset] [(.ref w_IMPLICIT)])) _
                  refine XS.astore X108.here hx rfl (hb hby at_26) rfl rfl (l' := #[.val (.int p1), .val (.int p2), .val (.int (1 : Int32)), .val (.int (4 : Int32)), .val (.ref w_TABLE), .val (.ref w_IMPLICIT)]) rfl ?_
                  show Steps p.tables e below (T108.setTop (mkF m 28 #[.val (.int p1), .val (.int p2), .val (.int (1 : Int32)), .val (.int (4 : Int32)), .val (.ref w_TABLE), .val (.ref w_IMPLICIT)] [])) _
                  refine XS.aload X108.here hx rfl (hb hby at_28) rfl rfl ?_
                  show Steps p.tables e below (T108.setTop (mkF m 30 #[.val (.int p1), .val (.int p2), .val (.int (1 : Int32)), .val (.int (4 : Int32)), .val (.ref w_TABLE), .val (.ref w_IMPLICIT)] [(.ref w_TABLE)])) _
                  refine XS.aload X108.here hx rfl (hb hby at_30) rfl rfl ?_
                  show Steps p.tables e below (T108.setTop (mkF m 32 #[.val (.int p1), .val (.int p2), .val (.int (1 : Int32)), .val (.int (4 : Int32)), .val (.ref w_TABLE), .val (.ref w_IMPLICIT)] [(.ref w_IMPLICIT), (.ref w_TABLE)])) _
                  refine st110.trans ?_
                  show Steps p.tables e below (T110.setTop (mkF m 35 #[.val (.int p1), .val (.int p2), .val (.int (1 : Int32)), .val (.int (4 : Int32)), .val (.ref w_TABLE), .val (.ref w_IMPLICIT)] [(.int (0 : Int32))])) _
                  refine XS.iloadN X110.here hx rfl (hb hby at_35) rfl ?_
                  show Steps p.tables e below (T110.setTop (mkF m 36 #[.val (.int p1), .val (.int p2), .val (.int (1 : Int32)), .val (.int (4 : Int32)), .val (.ref w_TABLE), .val (.ref w_IMPLICIT)] [(.int (1 : Int32)), (.int (0 : Int32))])) _
                  refine XS.iloadN X110.here hx rfl (hb hby at_36) rfl ?_
                  show Steps p.tables e below (T110.setTop (mkF m 37 #[.val (.int p1), .val (.int p2), .val (.int (1 : Int32)), .val (.int (4 : Int32)), .val (.ref w_TABLE), .val (.ref w_IMPLICIT)] [(.int (4 : Int32)), (.int (1 : Int32)), (.int (0 : Int32))])) _
                  refine st112 _ ?_
                  show Steps p.tables e below (T112.setTop (mkF m 40 #[.val (.int p1), .val (.int p2), .val (.int (1 : Int32)), .val (.int (4 : Int32)), .val (.ref w_TABLE), .val (.ref w_IMPLICIT)] [(.int (0 : Int32)), (.int (0 : Int32))])) _
                  refine XS.icmpNo X112.here hx rfl (hb hby at_40) rfl (teq (by decide : (0 : Int32) = (0 : Int32))).2 ?_
                  show Steps p.tables e below (T112.setTop (mkF m 43 #[.val (.int p1), .val (.int p2), .val (.int (1 : Int32)), .val (.int (4 : Int32)), .val (.ref w_TABLE), .val (.ref w_IMPLICIT)] [])) _
                  refine XS.iconst X112.here hx rfl (hb hby at_43) ?_
                  show Steps p.tables e below (T112.setTop (mkF m 44 #[.val (.int p1), .val (.int p2), .val (.int (1 : Int32)), .val (.int (4 : Int32)), .val (.ref w_TABLE), .val (.ref w_IMPLICIT)] [(.int (1 : Int32))])) _
                  refine XS.goto X112.here hx rfl (pc0 := 44) (pc' := 48) rfl (hb hby at_44) (by decide) (by decide) ?_
                  show Steps p.tables e below (T112.setTop (mkF m 48 #[.val (.int p1), .val (.int p2), .val (.int (1 : Int32)), .val (.int (4 : Int32)), .val (.ref w_TABLE), .val (.ref w_IMPLICIT)] [(.int (1 : Int32))])) _
                  exact retN X112 hx (t := .boolean) Bd.returns (by simp) (hb hby at_48) hr
                · show own_Q0 Z p1 p2 w_INTENTION w_TABLE w_NEXT_KEY w_RECORD w_IMPLICIT w_GAP w_INSERT_INTENTION h0 n0 _ T112.heap _
                  rw [e112]
                  exact ⟨(by rw [own_f0, if_neg hc1, if_pos hc9, if_neg hc10, if_neg hc11, if_neg hc12, if_neg hc13, if_pos hc14]), N113⟩
              ·
                by_cases hc15 : ((p2 &&& (2147483647 : Int32)) - ((p2 &&& (2147483647 : Int32)) / (7 : Int32)) * (7 : Int32)) = (5 : Int32)
                ·
                  have k114 : ∀ t, Steps p.tables e below (s₁.setTop (mkF m 15 #[.val (.int p1), .val (.int p2), .val (.int (1 : Int32)), .unset, .unset, .unset] [(.int (5 : Int32))])) t → Steps p.tables e below (s₁.setTop (entryFrame m #[(.int p1), (.int p2)] maxLocals)) t := by
                    intro t kt
                    refine k68 t ?_
                    rw [hc15]
                    exact kt
                  obtain ⟨v115, _, ⟨T115, L115, k115, n115⟩, -, X115, ⟨Lc115, hQ115, l115, y115, z115⟩, st115⟩ := Jvm.LawKit.callS X0 hx (y := (⟨"com/example/kerb/kerb/txn/LockKindCoversPinLaw", "pick", "(I)Lcom/example/kerb/kerb/txn/LockKind;"⟩ : MethodName)) hown (mvT hZ (hw _ (List.mem_of_getElem? (i := 1) rfl))) (mvT hZ (hw _ (List.mem_of_getElem? (i := 2) rfl))) (mvT hZ (hw _ (List.mem_of_getElem? (i := 3) rfl))) (mvT hZ (hw _ (List.mem_of_getElem? (i := 4) rfl))) (by decide) (backOf (W := 0) (own_rm1 l Z a0 hw [] (1 : Int32) w_INTENTION w_TABLE w_NEXT_KEY w_RECORD w_IMPLICIT w_GAP w_INSERT_INTENTION h0 n0 Z0 S_INTENTION S_TABLE S_NEXT_KEY S_RECORD S_IMPLICIT S_GAP S_INSERT_INTENTION) hZ (hw _ (List.mem_of_getElem? (i := 4) rfl)) (hw _ (List.mem_of_getElem? (i := 3) rfl)) (by decide) (by decide)) (g := (mkF m 17 #[.val (.int p1), .val (.int p2), .val (.int (1 : Int32)), .val (.int (5 : Int32)), .unset, .unset] [(.int (1 : Int32))])) rfl (by rw [hml]; rfl) (argsL := [(.int (1 : Int32))]) (rest := []) (lenOf own_pd93 rfl) rfl (by show 2 * 0 + _ ≤ _; exact Nat.le_of_eq rfl) (hb hby at_17) (fun _ _ => ⟨rfl, e0, (by decide : 0 + 0 ≤ _), (by decide : 0 + 0 ≤ _)⟩)
                  dsimp only [Pt.U, Pt.locs, Pt.cells, Pt.slots] at X115 l115 y115 z115 st115 hQ115
                  subst l115 y115 z115
                  obtain ⟨hv115, N115q, e115⟩ := hQ115
                  have N116 := Fr.app N0 N115q
                  rw [show (own_f1 (1 : Int32) w_INTENTION w_TABLE w_NEXT_KEY w_RECORD w_IMPLICIT w_GAP w_INSERT_INTENTION) = w_TABLE from by first | rfl | decide | simp [own_f1]] at hv115
                  subst hv115
                  obtain ⟨v117, _, ⟨T117, L117, k117, n117⟩, -, X117, ⟨Lc117, hQ117, l117, y117, z117⟩, st117⟩ := Jvm.LawKit.callS X115 hx (y := (⟨"com/example/kerb/kerb/txn/LockKindCoversPinLaw", "pick", "(I)Lcom/example/kerb/kerb/txn/LockKind;"⟩ : MethodName)) hown (mvT hZ (hw _ (List.mem_of_getElem? (i := 1) rfl))) (mvT hZ (hw _ (List.mem_of_getElem? (i := 2) rfl))) (mvT hZ (hw _ (List.mem_of_getElem? (i := 3) rfl))) (mvT hZ (hw _ (List.mem_of_getElem? (i := 4) rfl))) (by decide) (backOf (W := 0) (own_rm1 l Z a0 hw [] (5 : Int32) w_INTENTION w_TABLE w_NEXT_KEY w_RECORD w_IMPLICIT w_GAP w_INSERT_INTENTION h0 n0 Z0 S_INTENTION S_TABLE S_NEXT_KEY S_RECORD S_IMPLICIT S_GAP S_INSERT_INTENTION) hZ (hw _ (List.mem_of_getElem? (i := 4) rfl)) (hw _ (List.mem_of_getElem? (i := 3) rfl)) (by decide) (by decide)) (g := (mkF m 23 #[.val (.int p1), .val (.int p2), .val (.int (1 : Int32)), .val (.int (5 : Int32)), .val (.ref w_TABLE), .unset] [(.int (5 : Int32))])) rfl (by rw [hml]; rfl) (argsL := [(.int (5 : Int32))]) (rest := []) (lenOf own_pd93 rfl) rfl (by show 2 * 0 + _ ≤ _; exact Nat.le_of_eq rfl) (hb hby at_23) (fun _ _ => ⟨rfl, e115, (by decide : 0 + 0 ≤ _), (by decide : 0 + 0 ≤ _)⟩)
                  dsimp only [Pt.U, Pt.locs, Pt.cells, Pt.slots] at X117 l117 y117 z117 st117 hQ117
                  subst l117 y117 z117
                  obtain ⟨hv117, N117q, e117⟩ := hQ117
                  have N118 := Fr.app N116 N117q
                  rw [show (own_f1 (5 : Int32) w_INTENTION w_TABLE w_NEXT_KEY w_RECORD w_IMPLICIT w_GAP w_INSERT_INTENTION) = w_GAP from by first | rfl | decide | simp [own_f1]] at hv117
                  subst hv117
                  obtain ⟨cq119, kq119, q119a, q119b, q119c⟩ := isOf hZ e117 E_w_TABLE
                  obtain ⟨v119, _, ⟨T119, L119, k119, n119⟩, -, X119, ⟨Lc119, hQ119, l119, y119, z119⟩, st119⟩ := X117.virtualBack hx (y := (⟨"com/example/kerb/kerb/txn/LockKind", "covers", "(Lcom/example/kerb/kerb/txn/LockKind;)Z"⟩ : MethodName)) (z := (⟨"com/example/kerb/kerb/txn/LockKind", "covers", "(Lcom/example/kerb/kerb/txn/LockKind;)Z"⟩ : MethodName)) hown (mvT hZ (hw _ (List.mem_of_getElem? (i := 10) rfl))) (mvT hZ (hw _ (List.mem_of_getElem? (i := 11) rfl))) (notFace_of_selects (args := #[]) (mvT hZ (hw _ (List.mem_of_getElem? (i := 13) rfl)))) (mvT hZ (hw _ (List.mem_of_getElem? (i := 13) rfl))) (mvT hZ (hw _ (List.mem_of_getElem? (i := 12) rfl))) (by decide) (backOf (W := 0) (own_rm2 l Z a0 hw [] w_TABLE w_GAP (0 : Int32) w_NEXT_KEY w_GAP w_RECORD w_IMPLICIT h0 n0 Z0 F_coversRecord_w_TABLE S_NEXT_KEY S_GAP S_RECORD S_IMPLICIT) hZ (hw _ (List.mem_of_getElem? (i := 14) rfl)) (hw _ (List.mem_of_getElem? (i := 6) rfl)) (by decide) (by decide)) q119a q119c (g := (mkF m 32 #[.val (.int p1), .val (.int p2), .val (.int (1 : Int32)), .val (.int (5 : Int32)), .val (.ref w_TABLE), .val (.ref w_GAP)] [(.ref w_GAP), (.ref w_TABLE)])) rfl (by rw [hml]; rfl) (Steps.refl _) (argsL := [(.ref w_GAP)]) (rest := []) (lenOf own_pd94 rfl) rfl (by show 2 * 0 + _ ≤ _; exact Nat.le_of_eq rfl) (hb hby at_32) (fun _ _ => ⟨rfl, e117, (by decide : 0 + 0 ≤ _), (by decide : 0 + 0 ≤ _)⟩)
                  dsimp only [Pt.U, Pt.locs, Pt.cells, Pt.slots] at X119 l119 y119 z119 st119 hQ119
                  subst l119 y119 z119
                  obtain ⟨hv119, N119q, e119⟩ := hQ119
                  have N120 := Fr.app N118 N119q
                  rw [show (own_f2 w_TABLE w_GAP (0 : Int32) w_NEXT_KEY w_GAP w_RECORD w_IMPLICIT) = (0 : Int32) from by first | rfl | decide | simp [own_f2, ne_TABLE_GAP, ne_TABLE_NEXT_KEY]] at hv119
                  subst hv119
                  obtain ⟨v121, _, ⟨T121, L121, k121, n121⟩, -, X121, ⟨Lc121, hQ121, l121, y121, z121⟩, st121⟩ := Jvm.LawKit.callS X119 hx (y := (⟨"com/example/kerb/kerb/txn/LockKindCoversPinLaw", "expected", "(II)Z"⟩ : MethodName)) hown (mvT hZ (hw _ (List.mem_of_getElem? (i := 19) rfl))) (mvT hZ (hw _ (List.mem_of_getElem? (i := 20) rfl))) (mvT hZ (hw _ (List.mem_of_getElem? (i := 3) rfl))) (mvT hZ (hw _ (List.mem_of_getElem? (i := 21) rfl))) (by decide) (backOf (W := 1) (own_rm3 l Z a0 hw [] (1 : Int32) (5 : Int32) h0 n0 Z0) hZ (hw _ (List.mem_of_getElem? (i := 21) rfl)) (hw _ (List.mem_of_getElem? (i := 3) rfl)) (by decide) (by decide)) (g := (mkF m 37 #[.val (.int p1), .val (.int p2), .val (.int (1 : Int32)), .val (.int (5 : Int32)), .val (.ref w_TABLE), .val (.ref w_GAP)] [(.int (5 : Int32)), (.int (1 : Int32)), (.int (0 : Int32))])) rfl (by rw [hml]; rfl) (argsL := [(.int (1 : Int32)), (.int (5 : Int32))]) (rest := [(.int (0 : Int32))]) (lenOf own_pd95 rfl) rfl (by show 2 * 0 + _ ≤ _; exact Nat.le_of_eq rfl) (hb hby at_37) (fun _ _ => ⟨rfl, e119, (by decide : 0 + 0 ≤ _), (by decide : 0 + 0 ≤ _)⟩)
                  dsimp only [Pt.U, Pt.locs, Pt.cells, Pt.slots] at X121 l121 y121 z121 st121 hQ121
                  subst l121 y121 z121
                  obtain ⟨hv121, N121q, e121⟩ := hQ121
                  have N122 := Fr.app N120 N121q
                  rw [show (own_f3 (1 : Int32) (5 : Int32)) = (0 : Int32) from by first | rfl | decide | simp [own_f3]] at hv121
                  subst hv121
                  obtain ⟨fs, hr, hrun, hended, hW, hsame⟩ := X121.leave (v := some (.int (1 : Int32))) (fun h => by rw [Bd.returns] at h; cases h)
                  refine ⟨_, _, k114 _ ?_, hrun, hended, _, _, rfl, ?_, ⟨_, rfl⟩, hW, hsame.mono (by decide) (by decide)⟩
                  · show Steps p.tables e below (s₁.setTop (mkF m 15 #[.val (.int p1), .val (.int p2), .val (.int (1 : Int32)), .unset, .unset, .unset] [(.int (5 : Int32))])) _
                    refine XS.istoreN X0.here hx rfl (hb hby at_15) rfl (l' := #[.val (.int p1), .val (.int p2), .val (.int (1 : Int32)), .val (.int (5 : Int32)), .unset, .unset]) rfl ?_
                    show Steps p.tables e below (s₁.setTop (mkF m 16 #[.val (.int p1), .val (.int p2), .val (.int (1 : Int32)), .val (.int (5 : Int32)), .unset, .unset] [])) _
                    refine XS.iloadN X0.here hx rfl (hb hby at_16) rfl ?_
                    show Steps p.tables e below (s₁.setTop (mkF m 17 #[.val (.int p1), .val (.int p2), .val (.int (1 : Int32)), .val (.int (5 : Int32)), .unset, .unset] [(.int (1 : Int32))])) _
                    refine st115 _ ?_
                    show Steps p.tables e below (T115.setTop (mkF m 20 #[.val (.int p1), .val (.int p2), .val (.int (1 : Int32)), .val (.int (5 : Int32)), .unset, .unset] [(.ref w_TABLE)])) _
                    refine XS.astore X115.here hx rfl (hb hby at_20) rfl rfl (l' := #[.val (.int p1), .val (.int p2), .val (.int (1 : Int32)), .val (.int (5 : Int32)), .val (.ref w_TABLE), .unset]) rfl ?_
                    show Steps p.tables e below (T115.setTop (mkF m 22 #[.val (.int p1), .val (.int p2), .val (.int (1 : Int32)), .val (.int (5 : Int32)), .val (.ref w_TABLE), .unset] [])) _
                    refine XS.iloadN X115.here hx rfl (hb hby at_22) rfl ?_
                    show Steps p.tables e below (T115.setTop (mkF m 23 #[.val (.int p1), .val (.int p2), .val (.int (1 : Int32)), .val (.int (5 : Int32)), .val (.ref w_TABLE), .unset] [(.int (5 : Int32))])) _
                    refine st117 _ ?_
                    show Steps p.tables e below (T117.setTop (mkF m 26 #[.val (.int p1), .val (.int p2), .val (.int (1 : Int32)), .val (.int (5 : Int32)), .val (.ref w_TABLE), .unset] [(.ref w_GAP)])) _
                    refine XS.astore X117.here hx rfl (hb hby at_26) rfl rfl (l' := #[.val (.int p1), .val (.int p2), .val (.int (1 : Int32)), .val (.int (5 : Int32)), .val (.ref w_TABLE), .val (.ref w_GAP)]) rfl ?_
                    show Steps p.tables e below (T117.setTop (mkF m 28 #[.val (.int p1), .val (.int p2), .val (.int (1 : Int32)), .val (.int (5 : Int32)), .val (.ref w_TABLE), .val (.ref w_GAP)] [])) _
                    refine XS.aload X117.here hx rfl (hb hby at_28) rfl rfl ?_
                    show Steps p.tables e below (T117.setTop (mkF m 30 #[.val (.int p1), .val (.int p2), .val (.int (1 : Int32)), .val (.int (5 : Int32)), .val (.ref w_TABLE), .val (.ref w_GAP)] [(.ref w_TABLE)])) _
                    refine XS.aload X117.here hx rfl (hb hby at_30) rfl rfl ?_
                    show Steps p.tables e below (T117.setTop (mkF m 32 #[.val (.int p1), .val (.int p2), .val (.int (1 : Int32)), .val (.int (5 : Int32)), .val (.ref w_TABLE), .val (.ref w_GAP)] [(.ref w_GAP), (.ref w_TABLE)])) _
                    refine st119.trans ?_
                    show Steps p.tables e below (T119.setTop (mkF m 35 #[.val (.int p1), .val (.int p2), .val (.int (1 : Int32)), .val (.int (5 : Int32)), .val (.ref w_TABLE), .val (.ref w_GAP)] [(.int (0 : Int32))])) _
                    refine XS.iloadN X119.here hx rfl (hb hby at_35) rfl ?_
                    show Steps p.tables e below (T119.setTop (mkF m 36 #[.val (.int p1), .val (.int p2), .val (.int (1 : Int32)), .val (.int (5 : Int32)), .val (.ref w_TABLE), .val (.ref w_GAP)] [(.int (1 : Int32)), (.int (0 : Int32))])) _
                    refine XS.iloadN X119.here hx rfl (hb hby at_36) rfl ?_
                    show Steps p.tables e below (T119.setTop (mkF m 37 #[.val (.int p1), .val (.int p2), .val (.int (1 : Int32)), .val (.int (5 : Int32)), .val (.ref w_TABLE), .val (.ref w_GAP)] [(.int (5 : Int32)), (.int (1 : Int32)), (.int (0 : Int32))])) _
                    refine st121 _ ?_
                    show Steps p.tables e below (T121.setTop (mkF m 40 #[.val (.int p1), .val (.int p2), .val (.int (1 : Int32)), .val (.int (5 : Int32)), .val (.ref w_TABLE), .val (.ref w_GAP)] [(.int (0 : Int32)), (.int (0 : Int32))])) _
                    refine XS.icmpNo X121.here hx rfl (hb hby at_40) rfl (teq (by decide : (0 : Int32) = (0 : Int32))).2 ?_
                    show Steps p.tables e below (T121.setTop (mkF m 43 #[.val (.int p1), .val (.int p2), .val (.int (1 : Int32)), .val (.int (5 : Int32)), .val (.ref w_TABLE), .val (.ref w_GAP)] [])) _
                    refine XS.iconst X121.here hx rfl (hb hby at_43) ?_
                    show Steps p.tables e below (T121.setTop (mkF m 44 #[.val (.int p1), .val (.int p2), .val (.int (1 : Int32)), .val (.int (5 : Int32)), .val (.ref w_TABLE), .val (.ref w_GAP)] [(.int (1 : Int32))])) _
                    refine XS.goto X121.here hx rfl (pc0 := 44) (pc' := 48) rfl (hb hby at_44) (by decide) (by decide) ?_
                    show Steps p.tables e below (T121.setTop (mkF m 48 #[.val (.int p1), .val (.int p2), .val (.int (1 : Int32)), .val (.int (5 : Int32)), .val (.ref w_TABLE), .val (.ref w_GAP)] [(.int (1 : Int32))])) _
                    exact retN X121 hx (t := .boolean) Bd.returns (by simp) (hb hby at_48) hr
                  · show own_Q0 Z p1 p2 w_INTENTION w_TABLE w_NEXT_KEY w_RECORD w_IMPLICIT w_GAP w_INSERT_INTENTION h0 n0 _ T121.heap _
                    rw [e121]
                    exact ⟨(by rw [own_f0, if_neg hc1, if_pos hc9, if_neg hc10, if_neg hc11, if_neg hc12, if_neg hc13, if_neg hc14, if_pos hc15]), N122⟩
                ·
                  have hc16 : ((p2 &&& (2147483647 : Int32)) - ((p2 &&& (2147483647 : Int32)) / (7 : Int32)) * (7 : Int32)) = (6 : Int32) := own_exh p2 hc10 hc11 hc12 hc13 hc14 hc15
                  have k123 : ∀ t, Steps p.tables e below (s₁.setTop (mkF m 15 #[.val (.int p1), .val (.int p2), .val (.int (1 : Int32)), .unset, .unset, .unset] [(.int (6 : Int32))])) t → Steps p.tables e below (s₁.setTop (entryFrame m #[(.int p1), (.int p2)] maxLocals)) t := by
                    intro t kt
                    refine k68 t ?_
                    rw [hc16]
                    exact kt
                  obtain ⟨v124, _, ⟨T124, L124, k124, n124⟩, -, X124, ⟨Lc124, hQ124, l124, y124, z124⟩, st124⟩ := Jvm.LawKit.callS X0 hx (y := (⟨"com/example/kerb/kerb/txn/LockKindCoversPinLaw", "pick", "(I)Lcom/example/kerb/kerb/txn/LockKind;"⟩ : MethodName)) hown (mvT hZ (hw _ (List.mem_of_getElem? (i := 1) rfl))) (mvT hZ (hw _ (List.mem_of_getElem? (i := 2) rfl))) (mvT hZ (hw _ (List.mem_of_getElem? (i := 3) rfl))) (mvT hZ (hw _ (List.mem_of_getElem? (i := 4) rfl))) (by decide) (backOf (W := 0) (own_rm1 l Z a0 hw [] (1 : Int32) w_INTENTION w_TABLE w_NEXT_KEY w_RECORD w_IMPLICIT w_GAP w_INSERT_INTENTION h0 n0 Z0 S_INTENTION S_TABLE S_NEXT_KEY S_RECORD S_IMPLICIT S_GAP S_INSERT_INTENTION) hZ (hw _ (List.mem_of_getElem? (i := 4) rfl)) (hw _ (List.mem_of_getElem? (i := 3) rfl)) (by decide) (by decide)) (g := (mkF m 17 #[.val (.int p1), .val (.int p2), .val (.int (1 : Int32)), .val (.int (6 : Int32)), .unset, .unset] [(.int (1 : Int32))])) rfl (by rw [hml]; rfl) (argsL := [(.int (1 : Int32))]) (rest := []) (lenOf own_pd93 rfl) rfl (by show 2 * 0 + _ ≤ _; exact Nat.le_of_eq rfl) (hb hby at_17) (fun _ _ => ⟨rfl, e0, (by decide : 0 + 0 ≤ _), (by decide : 0 + 0 ≤ _)⟩)
                  dsimp only [Pt.U, Pt.locs, Pt.cells, Pt.slots] at X124 l124 y124 z124 st124 hQ124
                  subst l124 y124 z124
                  obtain ⟨hv124, N124q, e124⟩ := hQ124
                  have N125 := Fr.app N0 N124q
                  rw [show (own_f1 (1 : Int32) w_INTENTION w_TABLE w_NEXT_KEY w_RECORD w_IMPLICIT w_GAP w_INSERT_INTENTION) = w_TABLE from by first | rfl | decide | simp [own_f1]] at hv124
                  subst hv124
                  obtain ⟨v126, _, ⟨T126, L126, k126, n126⟩, -, X126, ⟨Lc126, hQ126, l126, y126, z126⟩, st126⟩ := Jvm.LawKit.callS X124 hx (y := (⟨"com/example/kerb/kerb/txn/LockKindCoversPinLaw", "pick", "(I)Lcom/example/kerb/kerb/txn/LockKind;"⟩ : MethodName)) hown (mvT hZ (hw _ (List.mem_of_getElem? (i := 1) rfl))) (mvT hZ (hw _ (List.mem_of_getElem? (i := 2) rfl))) (mvT hZ (hw _ (List.mem_of_getElem? (i := 3) rfl))) (mvT hZ (hw _ (List.mem_of_getElem? (i := 4) rfl))) (by decide) (backOf (W := 0) (own_rm1 l Z a0 hw [] (6 : Int32) w_INTENTION w_TABLE w_NEXT_KEY w_RECORD w_IMPLICIT w_GAP w_INSERT_INTENTION h0 n0 Z0 S_INTENTION S_TABLE S_NEXT_KEY S_RECORD S_IMPLICIT S_GAP S_INSERT_INTENTION) hZ (hw _ (List.mem_of_getElem? (i := 4) rfl)) (hw _ (List.mem_of_getElem? (i := 3) rfl)) (by decide) (by decide)) (g := (mkF m 23 #[.val (.int p1), .val (.int p2), .val (.int (1 : Int32)), .val (.int (6 : Int32)), .val (.ref w_TABLE), .unset] [(.int (6 : Int32))])) rfl (by rw [hml]; rfl) (argsL := [(.int (6 : Int32))]) (rest := []) (lenOf own_pd93 rfl) rfl (by show 2 * 0 + _ ≤ _; exact Nat.le_of_eq rfl) (hb hby at_23) (fun _ _ => ⟨rfl, e124, (by decide : 0 + 0 ≤ _), (by decide : 0 + 0 ≤ _)⟩)
                  dsimp only [Pt.U, Pt.locs, Pt.cells, Pt.slots] at X126 l126 y126 z126 st126 hQ126
                  subst l126 y126 z126
                  obtain ⟨hv126, N126q, e126⟩ := hQ126
                  have N127 := Fr.app N125 N126q
                  rw [show (own_f1 (6 : Int32) w_INTENTION w_TABLE w_NEXT_KEY w_RECORD w_IMPLICIT w_GAP w_INSERT_INTENTION) = w_INSERT_INTENTION from by first | rfl | decide | simp [own_f1]] at hv126
                  subst hv126
                  obtain ⟨cq128, kq128, q128a, q128b, q128c⟩ := isOf hZ e126 E_w_TABLE
                  obtain ⟨v128, _, ⟨T128, L128, k128, n128⟩, -, X128, ⟨Lc128, hQ128, l128, y128, z128⟩, st128⟩ := X126.virtualBack hx (y := (⟨"com/example/kerb/kerb/txn/LockKind", "covers", "(Lcom/example/kerb/kerb/txn/LockKind;)Z"⟩ : MethodName)) (z := (⟨"com/example/kerb/kerb/txn/LockKind", "covers", "(Lcom/example/kerb/kerb/txn/LockKind;)Z"⟩ : MethodName)) hown (mvT hZ (hw _ (List.mem_of_getElem? (i := 10) rfl))) (mvT hZ (hw _ (List.mem_of_getElem? (i := 11) rfl))) (notFace_of_selects (args := #[]) (mvT hZ (hw _ (List.mem_of_getElem? (i := 13) rfl)))) (mvT hZ (hw _ (List.mem_of_getElem? (i := 13) rfl))) (mvT hZ (hw _ (List.mem_of_getElem? (i := 12) rfl))) (by decide) (backOf (W := 0) (own_rm2 l Z a0 hw [] w_TABLE w_INSERT_INTENTION (0 : Int32) w_NEXT_KEY w_GAP w_RECORD w_IMPLICIT h0 n0 Z0 F_coversRecord_w_TABLE S_NEXT_KEY S_GAP S_RECORD S_IMPLICIT) hZ (hw _ (List.mem_of_getElem? (i := 14) rfl)) (hw _ (List.mem_of_getElem? (i := 6) rfl)) (by decide) (by decide)) q128a q128c (g := (mkF m 32 #[.val (.int p1), .val (.int p2), .val (.int (1 : Int32)), .val (.int (6 : Int32)), .val (.ref w_TABLE), .val (.ref w_INSERT_INTENTION)] [(.ref w_INSERT_INTENTION), (.ref w_TABLE)])) rfl (by rw [hml]; rfl) (Steps.refl _) (argsL := [(.ref w_INSERT_INTENTION)]) (rest := []) (lenOf own_pd94 rfl) rfl (by show 2 * 0 + _ ≤ _; exact Nat.le_of_eq rfl) (hb hby at_32) (fun _ _ => ⟨rfl, e126, (by decide : 0 + 0 ≤ _), (by decide : 0 + 0 ≤ _)⟩)
                  dsimp only [Pt.U, Pt.locs, Pt.cells, Pt.slots] at X128 l128 y128 z128 st128 hQ128
                  subst l128 y128 z128
                  obtain ⟨hv128, N128q, e128⟩ := hQ128
                  have N129 := Fr.app N127 N128q
                  rw [show (own_f2 w_TABLE w_INSERT_INTENTION (0 : Int32) w_NEXT_KEY w_GAP w_RECORD w_IMPLICIT) = (0 : Int32) from by first | rfl | decide | simp [own_f2, ne_TABLE_INSERT_INTENTION, ne_TABLE_NEXT_KEY]] at hv128
                  subst hv128
                  obtain ⟨v130, _, ⟨T130, L130, k130, n130⟩, -, X130, ⟨Lc130, hQ130, l130, y130, z130⟩, st130⟩ := Jvm.LawKit.callS X128 hx (y := (⟨"com/example/kerb/kerb/txn/LockKindCoversPinLaw", "expected", "(II)Z"⟩ : MethodName)) hown (mvT hZ (hw _ (List.mem_of_getElem? (i := 19) rfl))) (mvT hZ (hw _ (List.mem_of_getElem? (i := 20) rfl))) (mvT hZ (hw _ (List.mem_of_getElem? (i := 3) rfl))) (mvT hZ (hw _ (List.mem_of_getElem? (i := 21) rfl))) (by decide) (backOf (W := 1) (own_rm3 l Z a0 hw [] (1 : Int32) (6 : Int32) h0 n0 Z0) hZ (hw _ (List.mem_of_getElem? (i := 21) rfl)) (hw _ (List.mem_of_getElem? (i := 3) rfl)) (by decide) (by decide)) (g := (mkF m 37 #[.val (.int p1), .val (.int p2), .val (.int (1 : Int32)), .val (.int (6 : Int32)), .val (.ref w_TABLE), .val (.ref w_INSERT_INTENTION)] [(.int (6 : Int32)), (.int (1 : Int32)), (.int (0 : Int32))])) rfl (by rw [hml]; rfl) (argsL := [(.int (1 : Int32)), (.int (6 : Int32))]) (rest := [(.int (0 : Int32))]) (lenOf own_pd95 rfl) rfl (by show 2 * 0 + _ ≤ _; exact Nat.le_of_eq rfl) (hb hby at_37) (fun _ _ => ⟨rfl, e128, (by decide : 0 + 0 ≤ _), (by decide : 0 + 0 ≤ _)⟩)
                  dsimp only [Pt.U, Pt.locs, Pt.cells, Pt.slots] at X130 l130 y130 z130 st130 hQ130
                  subst l130 y130 z130
                  obtain ⟨hv130, N130q, e130⟩ := hQ130
                  have N131 := Fr.app N129 N130q
                  rw [show (own_f3 (1 : Int32) (6 : Int32)) = (0 : Int32) from by first | rfl | decide | simp [own_f3]] at hv130
                  subst hv130
                  obtain ⟨fs, hr, hrun, hended, hW, hsame⟩ := X130.leave (v := some (.int (1 : Int32))) (fun h => by rw [Bd.returns] at h; cases h)
                  refine ⟨_, _, k123 _ ?_, hrun, hended, _, _, rfl, ?_, ⟨_, rfl⟩, hW, hsame.mono (by decide) (by decide)⟩
                  · show Steps p.tables e below (s₁.setTop (mkF m 15 #[.val (.int p1), .val (.int p2), .val (.int (1 : Int32)), .unset, .unset, .unset] [(.int (6 : Int32))])) _
                    refine XS.istoreN X0.here hx rfl (hb hby at_15) rfl (l' := #[.val (.int p1), .val (.int p2), .val (.int (1 : Int32)), .val (.int (6 : Int32)), .unset, .unset]) rfl ?_
                    show Steps p.tables e below (s₁.setTop (mkF m 16 #[.val (.int p1), .val (.int p2), .val (.int (1 : Int32)), .val (.int (6 : Int32)), .unset, .unset] [])) _
                    refine XS.iloadN X0.here hx rfl (hb hby at_16) rfl ?_
                    show Steps p.tables e below (s₁.setTop (mkF m 17 #[.val (.int p1), .val (.int p2), .val (.int (1 : Int32)), .val (.int (6 : Int32)), .unset, .unset] [(.int (1 : Int32))])) _
                    refine st124 _ ?_
                    show Steps p.tables e below (T124.setTop (mkF m 20 #[.val (.int p1), .val (.int p2), .val (.int (1 : Int32)), .val (.int (6 : Int32)), .unset, .unset] [(.ref w_TABLE)])) _
                    refine XS.astore X124.here hx rfl (hb hby at_20) rfl rfl (l' := #[.val (.int p1), .val (.int p2), .val (.int (1 : Int32)), .val (.int (6 : Int32)), .val (.ref w_TABLE), .unset]) rfl ?_
                    show Steps p.tables e below (T124.setTop (mkF m 22 #[.val (.int p1), .val (.int p2), .val (.int (1 : Int32)), .val (.int (6 : Int32)), .val (.ref w_TABLE), .unset] [])) _
                    refine XS.iloadN X124.here hx rfl (hb hby at_22) rfl ?_
                    show Steps p.tables e below (T124.setTop (mkF m 23 #[.val (.int p1), .val (.int p2), .val (.int (1 : Int32)), .val (.int (6 : Int32)), .val (.ref w_TABLE), .unset] [(.int (6 : Int32))])) _
                    refine st126 _ ?_
                    show Steps p.tables e below (T126.setTop (mkF m 26 #[.val (.int p1), .val (.int p2), .val (.int (1 : Int32)), .val (.int (6 : Int32)), .val (.ref w_TABLE), .unset] [(.ref w_INSERT_INTENTION)])) _
                    refine XS.astore X126.here hx rfl (hb hby at_26) rfl rfl (l' := #[.val (.int p1), .val (.int p2), .val (.int (1 : Int32)), .val (.int (6 : Int32)), .val (.ref w_TABLE), .val (.ref w_INSERT_INTENTION)]) rfl ?_
                    show Steps p.tables e below (T126.setTop (mkF m 28 #[.val (.int p1), .val (.int p2), .val (.int (1 : Int32)), .val (.int (6 : Int32)), .val (.ref w_TABLE), .val (.ref w_INSERT_INTENTION)] [])) _
                    refine XS.aload X126.here hx rfl (hb hby at_28) rfl rfl ?_
                    show Steps p.tables e below (T126.setTop (mkF m 30 #[.val (.int p1), .val (.int p2), .val (.int (1 : Int32)), .val (.int (6 : Int32)), .val (.ref w_TABLE), .val (.ref w_INSERT_INTENTION)] [(.ref w_TABLE)])) _
                    refine XS.aload X126.here hx rfl (hb hby at_30) rfl rfl ?_
                    show Steps p.tables e below (T126.setTop (mkF m 32 #[.val (.int p1), .val (.int p2), .val (.int (1 : Int32)), .val (.int (6 : Int32)), .val (.ref w_TABLE), .val (.ref w_INSERT_INTENTION)] [(.ref w_INSERT_INTENTION), (.ref w_TABLE)])) _
                    refine st128.trans ?_
                    show Steps p.tables e below (T128.setTop (mkF m 35 #[.val (.int p1), .val (.int p2), .val (.int (1 : Int32)), .val (.int (6 : Int32)), .val (.ref w_TABLE), .val (.ref w_INSERT_INTENTION)] [(.int (0 : Int32))])) _
                    refine XS.iloadN X128.here hx rfl (hb hby at_35) rfl ?_
                    show Steps p.tables e below (T128.setTop (mkF m 36 #[.val (.int p1), .val (.int p2), .val (.int (1 : Int32)), .val (.int (6 : Int32)), .val (.ref w_TABLE), .val (.ref w_INSERT_INTENTION)] [(.int (1 : Int32)), (.int (0 : Int32))])) _
                    refine XS.iloadN X128.here hx rfl (hb hby at_36) rfl ?_
                    show Steps p.tables e below (T128.setTop (mkF m 37 #[.val (.int p1), .val (.int p2), .val (.int (1 : Int32)), .val (.int (6 : Int32)), .val (.ref w_TABLE), .val (.ref w_INSERT_INTENTION)] [(.int (6 : Int32)), (.int (1 : Int32)), (.int (0 : Int32))])) _
                    refine st130 _ ?_
                    show Steps p.tables e below (T130.setTop (mkF m 40 #[.val (.int p1), .val (.int p2), .val (.int (1 : Int32)), .val (.int (6 : Int32)), .val (.ref w_TABLE), .val (.ref w_INSERT_INTENTION)] [(.int (0 : Int32)), (.int (0 : Int32))])) _
                    refine XS.icmpNo X130.here hx rfl (hb hby at_40) rfl (teq (by decide : (0 : Int32) = (0 : Int32))).2 ?_
                    show Steps p.tables e below (T130.setTop (mkF m 43 #[.val (.int p1), .val (.int p2), .val (.int (1 : Int32)), .val (.int (6 : Int32)), .val (.ref w_TABLE), .val (.ref w_INSERT_INTENTION)] [])) _
                    refine XS.iconst X130.here hx rfl (hb hby at_43) ?_
                    show Steps p.tables e below (T130.setTop (mkF m 44 #[.val (.int p1), .val (.int p2), .val (.int (1 : Int32)), .val (.int (6 : Int32)), .val (.ref w_TABLE), .val (.ref w_INSERT_INTENTION)] [(.int (1 : Int32))])) _
                    refine XS.goto X130.here hx rfl (pc0 := 44) (pc' := 48) rfl (hb hby at_44) (by decide) (by decide) ?_
                    show Steps p.tables e below (T130.setTop (mkF m 48 #[.val (.int p1), .val (.int p2), .val (.int (1 : Int32)), .val (.int (6 : Int32)), .val (.ref w_TABLE), .val (.ref w_INSERT_INTENTION)] [(.int (1 : Int32))])) _
                    exact retN X130 hx (t := .boolean) Bd.returns (by simp) (hb hby at_48) hr
                  · show own_Q0 Z p1 p2 w_INTENTION w_TABLE w_NEXT_KEY w_RECORD w_IMPLICIT w_GAP w_INSERT_INTENTION h0 n0 _ T130.heap _
                    rw [e130]
                    exact ⟨(by rw [own_f0, if_neg hc1, if_pos hc9, if_neg hc10, if_neg hc11, if_neg hc12, if_neg hc13, if_neg hc14, if_neg hc15]), N131⟩
    ·
      by_cases hc17 : ((p1 &&& (2147483647 : Int32)) - ((p1 &&& (2147483647 : Int32)) / (7 : Int32)) * (7 : Int32)) = (2 : Int32)
      ·
        have k132 : ∀ t, Steps p.tables e below (s₁.setTop (mkF m 7 #[.val (.int p1), .val (.int p2), .unset, .unset, .unset, .unset] [(.int (2 : Int32))])) t → Steps p.tables e below (s₁.setTop (entryFrame m #[(.int p1), (.int p2)] maxLocals)) t := by
          intro t kt
          refine k1 t ?_
          rw [hc17]
          exact kt
        have k133 : ∀ t, Steps p.tables e below (s₁.setTop (mkF m 15 #[.val (.int p1), .val (.int p2), .val (.int (2 : Int32)), .unset, .unset, .unset] [(.int ((p2 &&& (2147483647 : Int32)) - ((p2 &&& (2147483647 : Int32)) / (7 : Int32)) * (7 : Int32)))])) t → Steps p.tables e below (s₁.setTop (entryFrame m #[(.int p1), (.int p2)] maxLocals)) t := by
          intro t kt
          refine k132 t ?_
          show Steps p.tables e below (s₁.setTop (mkF m 7 #[.val (.int p1), .val (.int p2), .unset, .unset, .unset, .unset] [(.int (2 : Int32))])) _
          refine XS.istoreN X0.here hx rfl (hb hby at_7) rfl (l' := #[.val (.int p1), .val (.int p2), .val (.int (2 : Int32)), .unset, .unset, .unset]) rfl ?_
          show Steps p.tables e below (s₁.setTop (mkF m 8 #[.val (.int p1), .val (.int p2), .val (.int (2 : Int32)), .unset, .unset, .unset] [])) _
          refine XS.iloadN X0.here hx rfl (hb hby at_8) rfl ?_
          show Steps p.tables e below (s₁.setTop (mkF m 9 #[.val (.int p1), .val (.int p2), .val (.int (2 : Int32)), .unset, .unset, .unset] [(.int p2)])) _
          refine X0.ldcInt hx hown (mvT hZ (hw _ (List.mem_of_getElem? (i := 0) rfl))) (g := (mkF m 9 #[.val (.int p1), .val (.int p2), .val (.int (2 : Int32)), .unset, .unset, .unset] [(.int p2)])) rfl (hb hby at_9) _ ?_
          show Steps p.tables e below (s₁.setTop (mkF m 11 #[.val (.int p1), .val (.int p2), .val (.int (2 : Int32)), .unset, .unset, .unset] [(.int (2147483647 : Int32)), (.int p2)])) _
          refine XS.iand X0.here hx rfl (hb hby at_11) rfl ?_
          show Steps p.tables e below (s₁.setTop (mkF m 12 #[.val (.int p1), .val (.int p2), .val (.int (2 : Int32)), .unset, .unset, .unset] [(.int (p2 &&& (2147483647 : Int32)))])) _
          refine XS.bipush X0.here hx rfl (hb hby at_12) ?_
          show Steps p.tables e below (s₁.setTop (mkF m 14 #[.val (.int p1), .val (.int p2), .val (.int (2 : Int32)), .unset, .unset, .unset] [(.int (7 : Int32)), (.int (p2 &&& (2147483647 : Int32)))])) _
          refine XS.irem X0.here hx rfl (hb hby at_14) rfl (by decide) ?_
          exact kt
        by_cases hc18 : ((p2 &&& (2147483647 : Int32)) - ((p2 &&& (2147483647 : Int32)) / (7 : Int32)) * (7 : Int32)) = (0 : Int32)
        ·
          have k134 : ∀ t, Steps p.tables e below (s₁.setTop (mkF m 15 #[.val (.int p1), .val (.int p2), .val (.int (2 : Int32)), .unset, .unset, .unset] [(.int (0 : Int32))])) t → Steps p.tables e below (s₁.setTop (entryFrame m #[(.int p1), (.int p2)] maxLocals)) t := by
            intro t kt
            refine k133 t ?_
            rw [hc18]
            exact kt
          obtain ⟨v135, _, ⟨T135, L135, k135, n135⟩, -, X135, ⟨Lc135, hQ135, l135, y135, z135⟩, st135⟩ := Jvm.LawKit.callS X0 hx (y := (⟨"com/example/kerb/kerb/txn/LockKindCoversPinLaw", "pick", "(I)Lcom/example/kerb/kerb/txn/LockKind;"⟩ : MethodName)) hown (mvT hZ (hw _ (List.mem_of_getElem? (i := 1) rfl))) (mvT hZ (hw _ (List.mem_of_getElem? (i := 2) rfl))) (mvT hZ (hw _ (List.mem_of_getElem? (i := 3) rfl))) (mvT hZ (hw _ (List.mem_of_getElem? (i := 4) rfl))) (by decide) (backOf (W := 0) (own_rm1 l Z a0 hw [] (2 : Int32) w_INTENTION w_TABLE w_NEXT_KEY w_RECORD w_IMPLICIT w_GAP w_INSERT_INTENTION h0 n0 Z0 S_INTENTION S_TABLE S_NEXT_KEY S_RECORD S_IMPLICIT S_GAP S_INSERT_INTENTION) hZ (hw _ (List.mem_of_getElem? (i := 4) rfl)) (hw _ (List.mem_of_getElem? (i := 3) rfl)) (by decide) (by decide)) (g := (mkF m 17 #[.val (.int p1), .val (.int p2), .val (.int (2 : Int32)), .val (.int (0 : Int32)), .unset, .unset] [(.int (2 : Int32))])) rfl (by rw [hml]; rfl) (argsL := [(.int (2 : Int32))]) (rest := []) (lenOf own_pd93 rfl) rfl (by show 2 * 0 + _ ≤ _; exact Nat.le_of_eq rfl) (hb hby at_17) (fun _ _ => ⟨rfl, e0, (by decide : 0 + 0 ≤ _), (by decide : 0 + 0 ≤ _)⟩)
          dsimp only [Pt.U, Pt.locs, Pt.cells, Pt.slots] at X135 l135 y135 z135 st135 hQ135
          subst l135 y135 z135
          obtain ⟨hv135, N135q, e135⟩ := hQ135
          have N136 := Fr.app N0 N135q
          rw [show (own_f1 (2 : Int32) w_INTENTION w_TABLE w_NEXT_KEY w_RECORD w_IMPLICIT w_GAP w_INSERT_INTENTION) = w_NEXT_KEY from by first | rfl | decide | simp [own_f1]] at hv135
          subst hv135
          obtain ⟨v137, _, ⟨T137, L137, k137, n137⟩, -, X137, ⟨Lc137, hQ137, l137, y137, z137⟩, st137⟩ := Jvm.LawKit.callS X135 hx (y := (⟨"com/example/kerb/kerb/txn/LockKindCoversPinLaw", "pick", "(I)Lcom/example/kerb/kerb/txn/LockKind;"⟩ : MethodName)) hown (mvT hZ (hw _ (List.mem_of_getElem? (i := 1) rfl))) (mvT hZ (hw _ (List.mem_of_getElem? (i := 2) rfl))) (mvT hZ (hw _ (List.mem_of_getElem? (i := 3) rfl))) (mvT hZ (hw _ (List.mem_of_getElem? (i := 4) rfl))) (by decide) (backOf (W := 0) (own_rm1 l Z a0 hw [] (0 : Int32) w_INTENTION w_TABLE w_NEXT_KEY w_RECORD w_IMPLICIT w_GAP w_INSERT_INTENTION h0 n0 Z0 S_INTENTION S_TABLE S_NEXT_KEY S_RECORD S_IMPLICIT S_GAP S_INSERT_INTENTION) hZ (hw _ (List.mem_of_getElem? (i := 4) rfl)) (hw _ (List.mem_of_getElem? (i := 3) rfl)) (by decide) (by decide)) (g := (mkF m 23 #[.val (.int p1), .val (.int p2), .val (.int (2 : Int32)), .val (.int (0 : Int32)), .val (.ref w_NEXT_KEY), .unset] [(.int (0 : Int32))])) rfl (by rw [hml]; rfl) (argsL := [(.int (0 : Int32))]) (rest := []) (lenOf own_pd93 rfl) rfl (by show 2 * 0 + _ ≤ _; exact Nat.le_of_eq rfl) (hb hby at_23) (fun _ _ => ⟨rfl, e135, (by decide : 0 + 0 ≤ _), (by decide : 0 + 0 ≤ _)⟩)
          dsimp only [Pt.U, Pt.locs, Pt.cells, Pt.slots] at X137 l137 y137 z137 st137 hQ137
          subst l137 y137 z137
          obtain ⟨hv137, N137q, e137⟩ := hQ137
          have N138 := Fr.app N136 N137q
          rw [show (own_f1 (0 : Int32) w_INTENTION w_TABLE w_NEXT_KEY w_RECORD w_IMPLICIT w_GAP w_INSERT_INTENTION) = w_INTENTION from by first | rfl | decide | simp [own_f1]] at hv137
          subst hv137
          obtain ⟨cq139, kq139, q139a, q139b, q139c⟩ := isOf hZ e137 E_w_NEXT_KEY
          obtain ⟨v139, _, ⟨T139, L139, k139, n139⟩, -, X139, ⟨Lc139, hQ139, l139, y139, z139⟩, st139⟩ := X137.virtualBack hx (y := (⟨"com/example/kerb/kerb/txn/LockKind", "covers", "(Lcom/example/kerb/kerb/txn/LockKind;)Z"⟩ : MethodName)) (z := (⟨"com/example/kerb/kerb/txn/LockKind", "covers", "(Lcom/example/kerb/kerb/txn/LockKind;)Z"⟩ : MethodName)) hown (mvT hZ (hw _ (List.mem_of_getElem? (i := 10) rfl))) (mvT hZ (hw _ (List.mem_of_getElem? (i := 11) rfl))) (notFace_of_selects (args := #[]) (mvT hZ (hw _ (List.mem_of_getElem? (i := 13) rfl)))) (mvT hZ (hw _ (List.mem_of_getElem? (i := 13) rfl))) (mvT hZ (hw _ (List.mem_of_getElem? (i := 12) rfl))) (by decide) (backOf (W := 0) (own_rm2 l Z a0 hw [] w_NEXT_KEY w_INTENTION (1 : Int32) w_NEXT_KEY w_GAP w_RECORD w_IMPLICIT h0 n0 Z0 F_coversRecord_w_NEXT_KEY S_NEXT_KEY S_GAP S_RECORD S_IMPLICIT) hZ (hw _ (List.mem_of_getElem? (i := 14) rfl)) (hw _ (List.mem_of_getElem? (i := 6) rfl)) (by decide) (by decide)) q139a q139c (g := (mkF m 32 #[.val (.int p1), .val (.int p2), .val (.int (2 : Int32)), .val (.int (0 : Int32)), .val (.ref w_NEXT_KEY), .val (.ref w_INTENTION)] [(.ref w_INTENTION), (.ref w_NEXT_KEY)])) rfl (by rw [hml]; rfl) (Steps.refl _) (argsL := [(.ref w_INTENTION)]) (rest := []) (lenOf own_pd94 rfl) rfl (by show 2 * 0 + _ ≤ _; exact Nat.le_of_eq rfl) (hb hby at_32) (fun _ _ => ⟨rfl, e137, (by decide : 0 + 0 ≤ _), (by decide : 0 + 0 ≤ _)⟩)
          dsimp only [Pt.U, Pt.locs, Pt.cells, Pt.slots] at X139 l139 y139 z139 st139 hQ139
          subst l139 y139 z139
          obtain ⟨hv139, N139q, e139⟩ := hQ139
          have N140 := Fr.app N138 N139q
          rw [show (own_f2 w_NEXT_KEY w_INTENTION (1 : Int32) w_NEXT_KEY w_GAP w_RECORD w_IMPLICIT) = (0 : Int32) from by first | rfl | decide | simp [own_f2, ne_INTENTION_GAP, ne_INTENTION_IMPLICIT, ne_INTENTION_NEXT_KEY.symm, ne_INTENTION_RECORD]] at hv139
          subst hv139
          obtain ⟨v141, _, ⟨T141, L141, k141, n141⟩, -, X141, ⟨Lc141, hQ141, l141, y141, z141⟩, st141⟩ := Jvm.LawKit.callS X139 hx (y := (⟨"com/example/kerb/kerb/txn/LockKindCoversPinLaw", "expected", "(II)Z"⟩ : MethodName)) hown (mvT hZ (hw _ (List.mem_of_getElem? (i := 19) rfl))) (mvT hZ (hw _ (List.mem_of_getElem? (i := 20) rfl))) (mvT hZ (hw _ (List.mem_of_getElem? (i := 3) rfl))) (mvT hZ (hw _ (List.mem_of_getElem? (i := 21) rfl))) (by decide) (backOf (W := 1) (own_rm3 l Z a0 hw [] (2 : Int32) (0 : Int32) h0 n0 Z0) hZ (hw _ (List.mem_of_getElem? (i := 21) rfl)) (hw _ (List.mem_of_getElem? (i := 3) rfl)) (by decide) (by decide)) (g := (mkF m 37 #[.val (.int p1), .val (.int p2), .val (.int (2 : Int32)), .val (.int (0 : Int32)), .val (.ref w_NEXT_KEY), .val (.ref w_INTENTION)] [(.int (0 : Int32)), (.int (2 : Int32)), (.int (0 : Int32))])) rfl (by rw [hml]; rfl) (argsL := [(.int (2 : Int32)), (.int (0 : Int32))]) (rest := [(.int (0 : Int32))]) (lenOf own_pd95 rfl) rfl (by show 2 * 0 + _ ≤ _; exact Nat.le_of_eq rfl) (hb hby at_37) (fun _ _ => ⟨rfl, e139, (by decide : 0 + 0 ≤ _), (by decide : 0 + 0 ≤ _)⟩)
          dsimp only [Pt.U, Pt.locs, Pt.cells, Pt.slots] at X141 l141 y141 z141 st141 hQ141
          subst l141 y141 z141
          obtain ⟨hv141, N141q, e141⟩ := hQ141
          have N142 := Fr.app N140 N141q
          rw [show (own_f3 (2 : Int32) (0 : Int32)) = (0 : Int32) from by first | rfl | decide | simp [own_f3]] at hv141
          subst hv141
          obtain ⟨fs, hr, hrun, hended, hW, hsame⟩ := X141.leave (v := some (.int (1 : Int32))) (fun h => by rw [Bd.returns] at h; cases h)
          refine ⟨_, _, k134 _ ?_, hrun, hended, _, _, rfl, ?_, ⟨_, rfl⟩, hW, hsame.mono (by decide) (by decide)⟩
          · show Steps p.tables e below (s₁.setTop (mkF m 15 #[.val (.int p1), .val (.int p2), .val (.int (2 : Int32)), .unset, .unset, .unset] [(.int (0 : Int32))])) _
            refine XS.istoreN X0.here hx rfl (hb hby at_15) rfl (l' := #[.val (.int p1), .val (.int p2), .val (.int (2 : Int32)), .val (.int (0 : Int32)), .unset, .unset]) rfl ?_
            show Steps p.tables e below (s₁.setTop (mkF m 16 #[.val (.int p1), .val (.int p2), .val (.int (2 : Int32)), .val (.int (0 : Int32)), .unset, .unset] [])) _
            refine XS.iloadN X0.here hx rfl (hb hby at_16) rfl ?_
            show Steps p.tables e below (s₁.setTop (mkF m 17 #[.val (.int p1), .val (.int p2), .val (.int (2 : Int32)), .val (.int (0 : Int32)), .unset, .unset] [(.int (2 : Int32))])) _
            refine st135 _ ?_
            show Steps p.tables e below (T135.setTop (mkF m 20 #[.val (.int p1), .val (.int p2), .val (.int (2 : Int32)), .val (.int (0 : Int32)), .unset, .unset] [(.ref w_NEXT_KEY)])) _
            refine XS.astore X135.here hx rfl (hb hby at_20) rfl rfl (l' := #[.val (.int p1), .val (.int p2), .val (.int (2 : Int32)), .val (.int (0 : Int32)), .val (.ref w_NEXT_KEY), .unset]) rfl ?_
            show Steps p.tables e below (T135.setTop (mkF m 22 #[.val (.int p1), .val (.int p2), .val (.int (2 : Int32)), .val (.int (0 : Int32)), .val (.ref w_NEXT_KEY), .unset] [])) _
            refine XS.iloadN X135.here hx rfl (hb hby at_22) rfl ?_
            show Steps p.tables e below (T135.setTop (mkF m 23 #[.val (.int p1), .val (.int p2), .val (.int (2 : Int32)), .val (.int (0 : Int32)), .val (.ref w_NEXT_KEY), .unset] [(.int (0 : Int32))])) _
            refine st137 _ ?_
            show Steps p.tables e below (T137.setTop (mkF m 26 #[.val (.int p1), .val (.int p2), .val (.int (2 : Int32)), .val (.int (0 : Int32)), .val (.ref w_NEXT_KEY), .unset] [(.ref w_INTENTION)])) _
            refine XS.astore X137.here hx rfl (hb hby at_26) rfl rfl (l' := #[.val (.int p1), .val (.int p2), .val (.int (2 : Int32)), .val (.int (0 : Int32)), .val (.ref w_NEXT_KEY), .val (.ref w_INTENTION)]) rfl ?_
            show Steps p.tables e below (T137.setTop (mkF m 28 #[.val (.int p1), .val (.int p2), .val (.int (2 : Int32)), .val (.int (0 : Int32)), .val (.ref w_NEXT_KEY), .val (.ref w_INTENTION)] [])) _
            refine XS.aload X137.here hx rfl (hb hby at_28) rfl rfl ?_
            show Steps p.tables e below (T137.setTop (mkF m 30 #[.val (.int p1), .val (.int p2), .val (.int (2 : Int32)), .val (.int (0 : Int32)), .val (.ref w_NEXT_KEY), .val (.ref w_INTENTION)] [(.ref w_NEXT_KEY)])) _
            refine XS.aload X137.here hx rfl (hb hby at_30) rfl rfl ?_
            show Steps p.tables e below (T137.setTop (mkF m 32 #[.val (.int p1), .val (.int p2), .val (.int (2 : Int32)), .val (.int (0 : Int32)), .val (.ref w_NEXT_KEY), .val (.ref w_INTENTION)] [(.ref w_INTENTION), (.ref w_NEXT_KEY)])) _
            refine st139.trans ?_
            show Steps p.tables e below (T139.setTop (mkF m 35 #[.val (.int p1), .val (.int p2), .val (.int (2 : Int32)), .val (.int (0 : Int32)), .val (.ref w_NEXT_KEY), .val (.ref w_INTENTION)] [(.int (0 : Int32))])) _
            refine XS.iloadN X139.here hx rfl (hb hby at_35) rfl ?_
            show Steps p.tables e below (T139.setTop (mkF m 36 #[.val (.int p1), .val (.int p2), .val (.int (2 : Int32)), .val (.int (0 : Int32)), .val (.ref w_NEXT_KEY), .val (.ref w_INTENTION)] [(.int (2 : Int32)), (.int (0 : Int32))])) _
            refine XS.iloadN X139.here hx rfl (hb hby at_36) rfl ?_
            show Steps p.tables e below (T139.setTop (mkF m 37 #[.val (.int p1), .val (.int p2), .val (.int (2 : Int32)), .val (.int (0 : Int32)), .val (.ref w_NEXT_KEY), .val (.ref w_INTENTION)] [(.int (0 : Int32)), (.int (2 : Int32)), (.int (0 : Int32))])) _
            refine st141 _ ?_
            show Steps p.tables e below (T141.setTop (mkF m 40 #[.val (.int p1), .val (.int p2), .val (.int (2 : Int32)), .val (.int (0 : Int32)), .val (.ref w_NEXT_KEY), .val (.ref w_INTENTION)] [(.int (0 : Int32)), (.int (0 : Int32))])) _
            refine XS.icmpNo X141.here hx rfl (hb hby at_40) rfl (teq (by decide : (0 : Int32) = (0 : Int32))).2 ?_
            show Steps p.tables e below (T141.setTop (mkF m 43 #[.val (.int p1), .val (.int p2), .val (.int (2 : Int32)), .val (.int (0 : Int32)), .val (.ref w_NEXT_KEY), .val (.ref w_INTENTION)] [])) _
            refine XS.iconst X141.here hx rfl (hb hby at_43) ?_
            show Steps p.tables e below (T141.setTop (mkF m 44 #[.val (.int p1), .val (.int p2), .val (.int (2 : Int32)), .val (.int (0 : Int32)), .val (.ref w_NEXT_KEY), .val (.ref w_INTENTION)] [(.int (1 : Int32))])) _
            refine XS.goto X141.here hx rfl (pc0 := 44) (pc' := 48) rfl (hb hby at_44) (by decide) (by decide) ?_
            show Steps p.tables e below (T141.setTop (mkF m 48 #[.val (.int p1), .val (.int p2), .val (.int (2 : Int32)), .val (.int (0 : Int32)), .val (.ref w_NEXT_KEY), .val (.ref w_INTENTION)] [(.int (1 : Int32))])) _
            exact retN X141 hx (t := .boolean) Bd.returns (by simp) (hb hby at_48) hr
          · show own_Q0 Z p1 p2 w_INTENTION w_TABLE w_NEXT_KEY w_RECORD w_IMPLICIT w_GAP w_INSERT_INTENTION h0 n0 _ T141.heap _
            rw [e141]
            exact ⟨(by rw [own_f0, if_neg hc1, if_neg hc9, if_pos hc17, if_pos hc18]), N142⟩
        ·
          by_cases hc19 : ((p2 &&& (2147483647 : Int32)) - ((p2 &&& (2147483647 : Int32)) / (7 : Int32)) * (7 : Int32)) = (1 : Int32)
          ·
            have k143 : ∀ t, Steps p.tables e below (s₁.setTop (mkF m 15 #[.val (.int p1), .val (.int p2), .val (.int (2 : Int32)), .unset, .unset, .unset] [(.int (1 : Int32))])) t → Steps p.tables e below (s₁.setTop (entryFrame m #[(.int p1), (.int p2)] maxLocals)) t := by
              intro t kt
              refine k133 t ?_
              rw [hc19]
              exact kt
            obtain ⟨v144, _, ⟨T144, L144, k144, n144⟩, -, X144, ⟨Lc144, hQ144, l144, y144, z144⟩, st144⟩ := Jvm.LawKit.callS X0 hx (y := (⟨"com/example/kerb/kerb/txn/LockKindCoversPinLaw", "pick", "(I)Lcom/example/kerb/kerb/txn/LockKind;"⟩ : MethodName)) hown (mvT hZ (hw _ (List.mem_of_getElem? (i := 1) rfl))) (mvT hZ (hw _ (List.mem_of_getElem? (i := 2) rfl))) (mvT hZ (hw _ (List.mem_of_getElem? (i := 3) rfl))) (mvT hZ (hw _ (List.mem_of_getElem? (i := 4) rfl))) (by decide) (backOf (W := 0) (own_rm1 l Z a0 hw [] (2 : Int32) w_INTENTION w_TABLE w_NEXT_KEY w_RECORD w_IMPLICIT w_GAP w_INSERT_INTENTION h0 n0 Z0 S_INTENTION S_TABLE S_NEXT_KEY S_RECORD S_IMPLICIT S_GAP S_INSERT_INTENTION) hZ (hw _ (List.mem_of_getElem? (i := 4) rfl)) (hw _ (List.mem_of_getElem? (i := 3) rfl)) (by decide) (by decide)) (g := (mkF m 17 #[.val (.int p1), .val (.int p2), .val (.int (2 : Int32)), .val (.int (1 : Int32)), .unset, .unset] [(.int (2 : Int32))])) rfl (by rw [hml]; rfl) (argsL := [(.int (2 : Int32))]) (rest := []) (lenOf own_pd93 rfl) rfl (by show 2 * 0 + _ ≤ _; exact Nat.le_of_eq rfl) (hb hby at_17) (fun _ _ => ⟨rfl, e0, (by decide : 0 + 0 ≤ _), (by decide : 0 + 0 ≤ _)⟩)
            dsimp only [Pt.U, Pt.locs, Pt.cells, Pt.slots] at X144 l144 y144 z144 st144 hQ144
            subst l144 y144 z144
            obtain ⟨hv144, N144q, e144⟩ := hQ144
            have N145 := Fr.app N0 N144q
            rw [show (own_f1 (2 : Int32) w_INTENTION w_TABLE w_NEXT_KEY w_RECORD w_IMPLICIT w_GAP w_INSERT_INTENTION) = w_NEXT_KEY from by first | rfl | decide | simp [own_f1]] at hv144
            subst hv144
            obtain ⟨v146, _, ⟨T146, L146, k146, n146⟩, -, X146, ⟨Lc146, hQ146, l146, y146, z146⟩, st146⟩ := Jvm.LawKit.callS X144 hx (y := (⟨"com/example/kerb/kerb/txn/LockKindCoversPinLaw", "pick", "(I)Lcom/example/kerb/kerb/txn/LockKind;"⟩ : MethodName)) hown (mvT hZ (hw _ (List.mem_of_getElem? (i := 1) rfl))) (mvT hZ (hw _ (List.mem_of_getElem? (i := 2) rfl))) (mvT hZ (hw _ (List.mem_of_getElem? (i := 3) rfl))) (mvT hZ (hw _ (List.mem_of_getElem? (i := 4) rfl))) (by decide) (backOf (W := 0) (own_rm1 l Z a0 hw [] (1 : Int32) w_INTENTION w_TABLE w_NEXT_KEY w_RECORD w_IMPLICIT w_GAP w_INSERT_INTENTION h0 n0 Z0 S_INTENTION S_TABLE S_NEXT_KEY S_RECORD S_IMPLICIT S_GAP S_INSERT_INTENTION) hZ (hw _ (List.mem_of_getElem? (i := 4) rfl)) (hw _ (List.mem_of_getElem? (i := 3) rfl)) (by decide) (by decide)) (g := (mkF m 23 #[.val (.int p1), .val (.int p2), .val (.int (2 : Int32)), .val (.int (1 : Int32)), .val (.ref w_NEXT_KEY), .unset] [(.int (1 : Int32))])) rfl (by rw [hml]; rfl) (argsL := [(.int (1 : Int32))]) (rest := []) (lenOf own_pd93 rfl) rfl (by show 2 * 0 + _ ≤ _; exact Nat.le_of_eq rfl) (hb hby at_23) (fun _ _ => ⟨rfl, e144, (by decide : 0 + 0 ≤ _), (by decide : 0 + 0 ≤ _)⟩)
            dsimp only [Pt.U, Pt.locs, Pt.cells, Pt.slots] at X146 l146 y146 z146 st146 hQ146
            subst l146 y146 z146
            obtain ⟨hv146, N146q, e146⟩ := hQ146
            have N147 := Fr.app N145 N146q
            rw [show (own_f1 (1 : Int32) w_INTENTION w_TABLE w_NEXT_KEY w_RECORD w_IMPLICIT w_GAP w_INSERT_INTENTION) = w_TABLE from by first | rfl | decide | simp [own_f1]] at hv146
            subst hv146
            obtain ⟨cq148, kq148, q148a, q148b, q148c⟩ := isOf hZ e146 E_w_NEXT_KEY
            obtain ⟨v148, _, ⟨T148, L148, k148, n148⟩, -, X148, ⟨Lc148, hQ148, l148, y148, z148⟩, st148⟩ := X146.virtualBack hx (y := (⟨"com/example/kerb/kerb/txn/LockKind", "covers", "(Lcom/example/kerb/kerb/txn/LockKind;)Z"⟩ : MethodName)) (z := (⟨"com/example/kerb/kerb/txn/LockKind", "covers", "(Lcom/example/kerb/kerb/txn/LockKind;)Z"⟩ : MethodName)) hown (mvT hZ (hw _ (List.mem_of_getElem? (i := 10) rfl))) (mvT hZ (hw _ (List.mem_of_getElem? (i := 11) rfl))) (notFace_of_selects (args := #[]) (mvT hZ (hw _ (List.mem_of_getElem? (i := 13) rfl)))) (mvT hZ (hw _ (List.mem_of_getElem? (i := 13) rfl))) (mvT hZ (hw _ (List.mem_of_getElem? (i := 12) rfl))) (by decide) (backOf (W := 0) (own_rm2 l Z a0 hw [] w_NEXT_KEY w_TABLE (1 : Int32) w_NEXT_KEY w_GAP w_RECORD w_IMPLICIT h0 n0 Z0 F_coversRecord_w_NEXT_KEY S_NEXT_KEY S_GAP S_RECORD S_IMPLICIT) hZ (hw _ (List.mem_of_getElem? (i := 14) rfl)) (hw _ (List.mem_of_getElem? (i := 6) rfl)) (by decide) (by decide)) q148a q148c (g := (mkF m 32 #[.val (.int p1), .val (.int p2), .val (.int (2 : Int32)), .val (.int (1 : Int32)), .val (.ref w_NEXT_KEY), .val (.ref w_TABLE)] [(.ref w_TABLE), (.ref w_NEXT_KEY)])) rfl (by rw [hml]; rfl) (Steps.refl _) (argsL := [(.ref w_TABLE)]) (rest := []) (lenOf own_pd94 rfl) rfl (by show 2 * 0 + _ ≤ _; exact Nat.le_of_eq rfl) (hb hby at_32) (fun _ _ => ⟨rfl, e146, (by decide : 0 + 0 ≤ _), (by decide : 0 + 0 ≤ _)⟩)
            dsimp only [Pt.U, Pt.locs, Pt.cells, Pt.slots] at X148 l148 y148 z148 st148 hQ148
            subst l148 y148 z148
            obtain ⟨hv148, N148q, e148⟩ := hQ148
            have N149 := Fr.app N147 N148q
            rw [show (own_f2 w_NEXT_KEY w_TABLE (1 : Int32) w_NEXT_KEY w_GAP w_RECORD w_IMPLICIT) = (0 : Int32) from by first | rfl | decide | simp [own_f2, ne_TABLE_GAP, ne_TABLE_IMPLICIT, ne_TABLE_NEXT_KEY.symm, ne_TABLE_RECORD]] at hv148
            subst hv148
            obtain ⟨v150, _, ⟨T150, L150, k150, n150⟩, -, X150, ⟨Lc150, hQ150, l150, y150, z150⟩, st150⟩ := Jvm.LawKit.callS X148 hx (y := (⟨"com/example/kerb/kerb/txn/LockKindCoversPinLaw", "expected", "(II)Z"⟩ : MethodName)) hown (mvT hZ (hw _ (List.mem_of_getElem? (i := 19) rfl))) (mvT hZ (hw _ (List.mem_of_getElem? (i := 20) rfl))) (mvT hZ (hw _ (List.mem_of_getElem? (i := 3) rfl))) (mvT hZ (hw _ (List.mem_of_getElem? (i := 21) rfl))) (by decide) (backOf (W := 1) (own_rm3 l Z a0 hw [] (2 : Int32) (1 : Int32) h0 n0 Z0) hZ (hw _ (List.mem_of_getElem? (i := 21) rfl)) (hw _ (List.mem_of_getElem? (i := 3) rfl)) (by decide) (by decide)) (g := (mkF m 37 #[.val (.int p1), .val (.int p2), .val (.int (2 : Int32)), .val (.int (1 : Int32)), .val (.ref w_NEXT_KEY), .val (.ref w_TABLE)] [(.int (1 : Int32)), (.int (2 : Int32)), (.int (0 : Int32))])) rfl (by rw [hml]; rfl) (argsL := [(.int (2 : Int32)), (.int (1 : Int32))]) (rest := [(.int (0 : Int32))]) (lenOf own_pd95 rfl) rfl (by show 2 * 0 + _ ≤ _; exact Nat.le_of_eq rfl) (hb hby at_37) (fun _ _ => ⟨rfl, e148, (by decide : 0 + 0 ≤ _), (by decide : 0 + 0 ≤ _)⟩)
            dsimp only [Pt.U, Pt.locs, Pt.cells, Pt.slots] at X150 l150 y150 z150 st150 hQ150
            subst l150 y150 z150
            obtain ⟨hv150, N150q, e150⟩ := hQ150
            have N151 := Fr.app N149 N150q
            rw [show (own_f3 (2 : Int32) (1 : Int32)) = (0 : Int32) from by first | rfl | decide | simp [own_f3]] at hv150
            subst hv150
            obtain ⟨fs, hr, hrun, hended, hW, hsame⟩ := X150.leave (v := some (.int (1 : Int32))) (fun h => by rw [Bd.returns] at h; cases h)
            refine ⟨_, _, k143 _ ?_, hrun, hended, _, _, rfl, ?_, ⟨_, rfl⟩, hW, hsame.mono (by decide) (by decide)⟩
            · show Steps p.tables e below (s₁.setTop (mkF m 15 #[.val (.int p1), .val (.int p2), .val (.int (2 : Int32)), .unset, .unset, .unset] [(.int (1 : Int32))])) _
              refine XS.istoreN X0.here hx rfl (hb hby at_15) rfl (l' := #[.val (.int p1), .val (.int p2), .val (.int (2 : Int32)), .val (.int (1 : Int32)), .unset, .unset]) rfl ?_
              show Steps p.tables e below (s₁.setTop (mkF m 16 #[.val (.int p1), .val (.int p2), .val (.int (2 : Int32)), .val (.int (1 : Int32)), .unset, .unset] [])) _
              refine XS.iloadN X0.here hx rfl (hb hby at_16) rfl ?_
              show Steps p.tables e below (s₁.setTop (mkF m 17 #[.val (.int p1), .val (.int p2), .val (.int (2 : Int32)), .val (.int (1 : Int32)), .unset, .unset] [(.int (2 : Int32))])) _
              refine st144 _ ?_
              show Steps p.tables e below (T144.setTop (mkF m 20 #[.val (.int p1), .val (.int p2), .val (.int (2 : Int32)), .val (.int (1 : Int32)), .unset, .unset] [(.ref w_NEXT_KEY)])) _
              refine XS.astore X144.here hx rfl (hb hby at_20) rfl rfl (l' := #[.val (.int p1), .val (.int p2), .val (.int (2 : Int32)), .val (.int (1 : Int32)), .val (.ref w_NEXT_KEY), .unset]) rfl ?_
              show Steps p.tables e below (T144.setTop (mkF m 22 #[.val (.int p1), .val (.int p2), .val (.int (2 : Int32)), .val (.int (1 : Int32)), .val (.ref w_NEXT_KEY), .unset] [])) _
              refine XS.iloadN X144.here hx rfl (hb hby at_22) rfl ?_
              show Steps p.tables e below (T144.setTop (mkF m 23 #[.val (.int p1), .val (.int p2), .val (.int (2 : Int32)), .val (.int (1 : Int32)), .val (.ref w_NEXT_KEY), .unset] [(.int (1 : Int32))])) _
              refine st146 _ ?_
              show Steps p.tables e below (T146.setTop (mkF m 26 #[.val (.int p1), .val (.int p2), .val (.int (2 : Int32)), .val (.int (1 : Int32)), .val (.ref w_NEXT_KEY), .unset] [(.ref w_TABLE)])) _
              refine XS.astore X146.here hx rfl (hb hby at_26) rfl rfl (l' := #[.val (.int p1), .val (.int p2), .val (.int (2 : Int32)), .val (.int (1 : Int32)), .val (.ref w_NEXT_KEY), .val (.ref w_TABLE)]) rfl ?_
              show Steps p.tables e below (T146.setTop (mkF m 28 #[.val (.int p1), .val (.int p2), .val (.int (2 : Int32)), .val (.int (1 : Int32)), .val (.ref w_NEXT_KEY), .val (.ref w_TABLE)] [])) _
              refine XS.aload X146.here hx rfl (hb hby at_28) rfl rfl ?_
              show Steps p.tables e below (T146.setTop (mkF m 30 #[.val (.int p1), .val (.int p2), .val (.int (2 : Int32)), .val (.int (1 : Int32)), .val (.ref w_NEXT_KEY), .val (.ref w_TABLE)] [(.ref w_NEXT_KEY)])) _
              refine XS.aload X146.here hx rfl (hb hby at_30) rfl rfl ?_
              show Steps p.tables e below (T146.setTop (mkF m 32 #[.val (.int p1), .val (.int p2), .val (.int (2 : Int32)), .val (.int (1 : Int32)), .val (.ref w_NEXT_KEY), .val (.ref w_TABLE)] [(.ref w_TABLE), (.ref w_NEXT_KEY)])) _
              refine st148.trans ?_
              show Steps p.tables e below (T148.setTop (mkF m 35 #[.val (.int p1), .val (.int p2), .val (.int (2 : Int32)), .val (.int (1 : Int32)), .val (.ref w_NEXT_KEY), .val (.ref w_TABLE)] [(.int (0 : Int32))])) _
              refine XS.iloadN X148.here hx rfl (hb hby at_35) rfl ?_
              show Steps p.tables e below (T148.setTop (mkF m 36 #[.val (.int p1), .val (.int p2), .val (.int (2 : Int32)), .val (.int (1 : Int32)), .val (.ref w_NEXT_KEY), .val (.ref w_TABLE)] [(.int (2 : Int32)), (.int (0 : Int32))])) _
              refine XS.iloadN X148.here hx rfl (hb hby at_36) rfl ?_
              show Steps p.tables e below (T148.setTop (mkF m 37 #[.val (.int p1), .val (.int p2), .val (.int (2 : Int32)), .val (.int (1 : Int32)), .val (.ref w_NEXT_KEY), .val (.ref w_TABLE)] [(.int (1 : Int32)), (.int (2 : Int32)), (.int (0 : Int32))])) _
              refine st150 _ ?_
              show Steps p.tables e below (T150.setTop (mkF m 40 #[.val (.int p1), .val (.int p2), .val (.int (2 : Int32)), .val (.int (1 : Int32)), .val (.ref w_NEXT_KEY), .val (.ref w_TABLE)] [(.int (0 : Int32)), (.int (0 : Int32))])) _
              refine XS.icmpNo X150.here hx rfl (hb hby at_40) rfl (teq (by decide : (0 : Int32) = (0 : Int32))).2 ?_
              show Steps p.tables e below (T150.setTop (mkF m 43 #[.val (.int p1), .val (.int p2), .val (.int (2 : Int32)), .val (.int (1 : Int32)), .val (.ref w_NEXT_KEY), .val (.ref w_TABLE)] [])) _
              refine XS.iconst X150.here hx rfl (hb hby at_43) ?_
              show Steps p.tables e below (T150.setTop (mkF m 44 #[.val (.int p1), .val (.int p2), .val (.int (2 : Int32)), .val (.int (1 : Int32)), .val (.ref w_NEXT_KEY), .val (.ref w_TABLE)] [(.int (1 : Int32))])) _
              refine XS.goto X150.here hx rfl (pc0 := 44) (pc' := 48) rfl (hb hby at_44) (by decide) (by decide) ?_
              show Steps p.tables e below (T150.setTop (mkF m 48 #[.val (.int p1), .val (.int p2), .val (.int (2 : Int32)), .val (.int (1 : Int32)), .val (.ref w_NEXT_KEY), .val (.ref w_TABLE)] [(.int (1 : Int32))])) _
              exact retN X150 hx (t := .boolean) Bd.returns (by simp) (hb hby at_48) hr
            · show own_Q0 Z p1 p2 w_INTENTION w_TABLE w_NEXT_KEY w_RECORD w_IMPLICIT w_GAP w_INSERT_INTENTION h0 n0 _ T150.heap _
              rw [e150]
              exact ⟨(by rw [own_f0, if_neg hc1, if_neg hc9, if_pos hc17, if_neg hc18, if_pos hc19]), N151⟩
          ·
            by_cases hc20 : ((p2 &&& (2147483647 : Int32)) - ((p2 &&& (2147483647 : Int32)) / (7 : Int32)) * (7 : Int32)) = (2 : Int32)
            ·
              have k152 : ∀ t, Steps p.tables e below (s₁.setTop (mkF m 15 #[.val (.int p1), .val (.int p2), .val (.int (2 : Int32)), .unset, .unset, .unset] [(.int (2 : Int32))])) t → Steps p.tables e below (s₁.setTop (entryFrame m #[(.int p1), (.int p2)] maxLocals)) t := by
                intro t kt
                refine k133 t ?_
                rw [hc20]
                exact kt
              obtain ⟨v153, _, ⟨T153, L153, k153, n153⟩, -, X153, ⟨Lc153, hQ153, l153, y153, z153⟩, st153⟩ := Jvm.LawKit.callS X0 hx (y := (⟨"com/example/kerb/kerb/txn/LockKindCoversPinLaw", "pick", "(I)Lcom/example/kerb/kerb/txn/LockKind;"⟩ : MethodName)) hown (mvT hZ (hw _ (List.mem_of_getElem? (i := 1) rfl))) (mvT hZ (hw _ (List.mem_of_getElem? (i := 2) rfl))) (mvT hZ (hw _ (List.mem_of_getElem? (i := 3) rfl))) (mvT hZ (hw _ (List.mem_of_getElem? (i := 4) rfl))) (by decide) (backOf (W := 0) (own_rm1 l Z a0 hw [] (2 : Int32) w_INTENTION w_TABLE w_NEXT_KEY w_RECORD w_IMPLICIT w_GAP w_INSERT_INTENTION h0 n0 Z0 S_INTENTION S_TABLE S_NEXT_KEY S_RECORD S_IMPLICIT S_GAP S_INSERT_INTENTION) hZ (hw _ (List.mem_of_getElem? (i := 4) rfl)) (hw _ (List.mem_of_getElem? (i := 3) rfl)) (by decide) (by decide)) (g := (mkF m 17 #[.val (.int p1), .val (.int p2), .val (.int (2 : Int32)), .val (.int (2 : Int32)), .unset, .unset] [(.int (2 : Int32))])) rfl (by rw [hml]; rfl) (argsL := [(.int (2 : Int32))]) (rest := []) (lenOf own_pd93 rfl) rfl (by show 2 * 0 + _ ≤ _; exact Nat.le_of_eq rfl) (hb hby at_17) (fun _ _ => ⟨rfl, e0, (by decide : 0 + 0 ≤ _), (by decide : 0 + 0 ≤ _)⟩)
              dsimp only [Pt.U, Pt.locs, Pt.cells, Pt.slots] at X153 l153 y153 z153 st153 hQ153
              subst l153 y153 z153
              obtain ⟨hv153, N153q, e153⟩ := hQ153
              have N154 := Fr.app N0 N153q
              rw [show (own_f1 (2 : Int32) w_INTENTION w_TABLE w_NEXT_KEY w_RECORD w_IMPLICIT w_GAP w_INSERT_INTENTION) = w_NEXT_KEY from by first | rfl | decide | simp [own_f1]] at hv153
              subst hv153
              obtain ⟨v155, _, ⟨T155, L155, k155, n155⟩, -, X155, ⟨Lc155, hQ155, l155, y155, z155⟩, st155⟩ := Jvm.LawKit.callS X153 hx (y := (⟨"com/example/kerb/kerb/txn/LockKindCoversPinLaw", "pick", "(I)Lcom/example/kerb/kerb/txn/LockKind;"⟩ : MethodName)) hown (mvT hZ (hw _ (List.mem_of_getElem? (i := 1) rfl))) (mvT hZ (hw _ (List.mem_of_getElem? (i := 2) rfl))) (mvT hZ (hw _ (List.mem_of_getElem? (i := 3) rfl))) (mvT hZ (hw _ (List.mem_of_getElem? (i := 4) rfl))) (by decide) (backOf (W := 0) (own_rm1 l Z a0 hw [] (2 : Int32) w_INTENTION w_TABLE w_NEXT_KEY w_RECORD w_IMPLICIT w_GAP w_INSERT_INTENTION h0 n0 Z0 S_INTENTION S_TABLE S_NEXT_KEY S_RECORD S_IMPLICIT S_GAP S_INSERT_INTENTION) hZ (hw _ (List.mem_of_getElem? (i := 4) rfl)) (hw _ (List.mem_of_getElem? (i := 3) rfl)) (by decide) (by decide)) (g := (mkF m 23 #[.val (.int p1), .val (.int p2), .val (.int (2 : Int32)), .val (.int (2 : Int32)), .val (.ref w_NEXT_KEY), .unset] [(.int (2 : Int32))])) rfl (by rw [hml]; rfl) (argsL := [(.int (2 : Int32))]) (rest := []) (lenOf own_pd93 rfl) rfl (by show 2 * 0 + _ ≤ _; exact Nat.le_of_eq rfl) (hb hby at_23) (fun _ _ => ⟨rfl, e153, (by decide : 0 + 0 ≤ _), (by decide : 0 + 0 ≤ _)⟩)
              dsimp only [Pt.U, Pt.locs, Pt.cells, Pt.slots] at X155 l155 y155 z155 st155 hQ155
              subst l155 y155 z155
              obtain ⟨hv155, N155q, e155⟩ := hQ155
              have N156 := Fr.app N154 N155q
              rw [show (own_f1 (2 : Int32) w_INTENTION w_TABLE w_NEXT_KEY w_RECORD w_IMPLICIT w_GAP w_INSERT_INTENTION) = w_NEXT_KEY from by first | rfl | decide | simp [own_f1]] at hv155
              subst hv155
              obtain ⟨cq157, kq157, q157a, q157b, q157c⟩ := isOf hZ e155 E_w_NEXT_KEY
              obtain ⟨v157, _, ⟨T157, L157, k157, n157⟩, -, X157, ⟨Lc157, hQ157, l157, y157, z157⟩, st157⟩ := X155.virtualBack hx (y := (⟨"com/example/kerb/kerb/txn/LockKind", "covers", "(Lcom/example/kerb/kerb/txn/LockKind;)Z"⟩ : MethodName)) (z := (⟨"com/example/kerb/kerb/txn/LockKind", "covers", "(Lcom/example/kerb/kerb/txn/LockKind;)Z"⟩ : MethodName)) hown (mvT hZ (hw _ (List.mem_of_getElem? (i := 10) rfl))) (mvT hZ (hw _ (List.mem_of_getElem? (i := 11) rfl))) (notFace_of_selects (args := #[]) (mvT hZ (hw _ (List.mem_of_getElem? (i := 13) rfl)))) (mvT hZ (hw _ (List.mem_of_getElem? (i := 13) rfl))) (mvT hZ (hw _ (List.mem_of_getElem? (i := 12) rfl))) (by decide) (backOf (W := 0) (own_rm2 l Z a0 hw [] w_NEXT_KEY w_NEXT_KEY (1 : Int32) w_NEXT_KEY w_GAP w_RECORD w_IMPLICIT h0 n0 Z0 F_coversRecord_w_NEXT_KEY S_NEXT_KEY S_GAP S_RECORD S_IMPLICIT) hZ (hw _ (List.mem_of_getElem? (i := 14) rfl)) (hw _ (List.mem_of_getElem? (i := 6) rfl)) (by decide) (by decide)) q157a q157c (g := (mkF m 32 #[.val (.int p1), .val (.int p2), .val (.int (2 : Int32)), .val (.int (2 : Int32)), .val (.ref w_NEXT_KEY), .val (.ref w_NEXT_KEY)] [(.ref w_NEXT_KEY), (.ref w_NEXT_KEY)])) rfl (by rw [hml]; rfl) (Steps.refl _) (argsL := [(.ref w_NEXT_KEY)]) (rest := []) (lenOf own_pd94 rfl) rfl (by show 2 * 0 + _ ≤ _; exact Nat.le_of_eq rfl) (hb hby at_32) (fun _ _ => ⟨rfl, e155, (by decide : 0 + 0 ≤ _), (by decide : 0 + 0 ≤ _)⟩)
              dsimp only [Pt.U, Pt.locs, Pt.cells, Pt.slots] at X157 l157 y157 z157 st157 hQ157
              subst l157 y157 z157
              obtain ⟨hv157, N157q, e157⟩ := hQ157
              have N158 := Fr.app N156 N157q
              rw [show (own_f2 w_NEXT_KEY w_NEXT_KEY (1 : Int32) w_NEXT_KEY w_GAP w_RECORD w_IMPLICIT) = (1 : Int32) from by first | rfl | decide | simp [own_f2]] at hv157
              subst hv157
              obtain ⟨v159, _, ⟨T159, L159, k159, n159⟩, -, X159, ⟨Lc159, hQ159, l159, y159, z159⟩, st159⟩ := Jvm.LawKit.callS X157 hx (y := (⟨"com/example/kerb/kerb/txn/LockKindCoversPinLaw", "expected", "(II)Z"⟩ : MethodName)) hown (mvT hZ (hw _ (List.mem_of_getElem? (i := 19) rfl))) (mvT hZ (hw _ (List.mem_of_getElem? (i := 20) rfl))) (mvT hZ (hw _ (List.mem_of_getElem? (i := 3) rfl))) (mvT hZ (hw _ (List.mem_of_getElem? (i := 21) rfl))) (by decide) (backOf (W := 1) (own_rm3 l Z a0 hw [] (2 : Int32) (2 : Int32) h0 n0 Z0) hZ (hw _ (List.mem_of_getElem? (i := 21) rfl)) (hw _ (List.mem_of_getElem? (i := 3) rfl)) (by decide) (by decide)) (g := (mkF m 37 #[.val (.int p1), .val (.int p2), .val (.int (2 : Int32)), .val (.int (2 : Int32)), .val (.ref w_NEXT_KEY), .val (.ref w_NEXT_KEY)] [(.int (2 : Int32)), (.int (2 : Int32)), (.int (1 : Int32))])) rfl (by rw [hml]; rfl) (argsL := [(.int (2 : Int32)), (.int (2 : Int32))]) (rest := [(.int (1 : Int32))]) (lenOf own_pd95 rfl) rfl (by show 2 * 0 + _ ≤ _; exact Nat.le_of_eq rfl) (hb hby at_37) (fun _ _ => ⟨rfl, e157, (by decide : 0 + 0 ≤ _), (by decide : 0 + 0 ≤ _)⟩)
              dsimp only [Pt.U, Pt.locs, Pt.cells, Pt.slots] at X159 l159 y159 z159 st159 hQ159
              subst l159 y159 z159
              obtain ⟨hv159, N159q, e159⟩ := hQ159
              have N160 := Fr.app N158 N159q
              rw [show (own_f3 (2 : Int32) (2 : Int32)) = (1 : Int32) from by first | rfl | decide | simp [own_f3]] at hv159
              subst hv159
              obtain ⟨fs, hr, hrun, hended, hW, hsame⟩ := X159.leave (v := some (.int (1 : Int32))) (fun h => by rw [Bd.returns] at h; cases h)
              refine ⟨_, _, k152 _ ?_, hrun, hended, _, _, rfl, ?_, ⟨_, rfl⟩, hW, hsame.mono (by decide) (by decide)⟩
              · show Steps p.tables e below (s₁.setTop (mkF m 15 #[.val (.int p1), .val (.int p2), .val (.int (2 : Int32)), .unset, .unset, .unset] [(.int (2 : Int32))])) _
                refine XS.istoreN X0.here hx rfl (hb hby at_15) rfl (l' := #[.val (.int p1), .val (.int p2), .val (.int (2 : Int32)), .val (.int (2 : Int32)), .unset, .unset]) rfl ?_
                show Steps p.tables e below (s₁.setTop (mkF m 16 #[.val (.int p1), .val (.int p2), .val (.int (2 : Int32)), .val (.int (2 : Int32)), .unset, .unset] [])) _
                refine XS.iloadN X0.here hx rfl (hb hby at_16) rfl ?_
                show Steps p.tables e below (s₁.setTop (mkF m 17 #[.val (.int p1), .val (.int p2), .val (.int (2 : Int32)), .val (.int (2 : Int32)), .unset, .unset] [(.int (2 : Int32))])) _
                refine st153 _ ?_
                show Steps p.tables e below (T153.setTop (mkF m 20 #[.val (.int p1), .val (.int p2), .val (.int (2 : Int32)), .val (.int (2 : Int32)), .unset, .unset] [(.ref w_NEXT_KEY)])) _
                refine XS.astore X153.here hx rfl (hb hby at_20) rfl rfl (l' := #[.val (.int p1), .val (.int p2), .val (.int (2 : Int32)), .val (.int (2 : Int32)), .val (.ref w_NEXT_KEY), .unset]) rfl ?_
                show Steps p.tables e below (T153.setTop (mkF m 22 #[.val (.int p1), .val (.int p2), .val (.int (2 : Int32)), .val (.int (2 : Int32)), .val (.ref w_NEXT_KEY), .unset] [])) _
                refine XS.iloadN X153.here hx rfl (hb hby at_22) rfl ?_
                show Steps p.tables e below (T153.setTop (mkF m 23 #[.val (.int p1), .val (.int p2), .val (.int (2 : Int32)), .val (.int (2 : Int32)), .val (.ref w_NEXT_KEY), .unset] [(.int (2 : Int32))])) _
                refine st155 _ ?_
                show Steps p.tables e below (T155.setTop (mkF m 26 #[.val (.int p1), .val (.int p2), .val (.int (2 : Int32)), .val (.int (2 : Int32)), .val (.ref w_NEXT_KEY), .unset] [(.ref w_NEXT_KEY)])) _
                refine XS.astore X155.here hx rfl (hb hby at_26) rfl rfl (l' := #[.val (.int p1), .val (.int p2), .val (.int (2 : Int32)), .val (.int (2 : Int32)), .val (.ref w_NEXT_KEY), .val (.ref w_NEXT_KEY)]) rfl ?_
                show Steps p.tables e below (T155.setTop (mkF m 28 #[.val (.int p1), .val (.int p2), .val (.int (2 : Int32)), .val (.int (2 : Int32)), .val (.ref w_NEXT_KEY), .val (.ref w_NEXT_KEY)] [])) _
                refine XS.aload X155.here hx rfl (hb hby at_28) rfl rfl ?_
                show Steps p.tables e below (T155.setTop (mkF m 30 #[.val (.int p1), .val (.int p2), .val (.int (2 : Int32)), .val (.int (2 : Int32)), .val (.ref w_NEXT_KEY), .val (.ref w_NEXT_KEY)] [(.ref w_NEXT_KEY)])) _
                refine XS.aload X155.here hx rfl (hb hby at_30) rfl rfl ?_
                show Steps p.tables e below (T155.setTop (mkF m 32 #[.val (.int p1), .val (.int p2), .val (.int (2 : Int32)), .val (.int (2 : Int32)), .val (.ref w_NEXT_KEY), .val (.ref w_NEXT_KEY)] [(.ref w_NEXT_KEY), (.ref w_NEXT_KEY)])) _
                refine st157.trans ?_
                show Steps p.tables e below (T157.setTop (mkF m 35 #[.val (.int p1), .val (.int p2), .val (.int (2 : Int32)), .val (.int (2 : Int32)), .val (.ref w_NEXT_KEY), .val (.ref w_NEXT_KEY)] [(.int (1 : Int32))])) _
                refine XS.iloadN X157.here hx rfl (hb hby at_35) rfl ?_
                show Steps p.tables e below (T157.setTop (mkF m 36 #[.val (.int p1), .val (.int p2), .val (.int (2 : Int32)), .val (.int (2 : Int32)), .val (.ref w_NEXT_KEY), .val (.ref w_NEXT_KEY)] [(.int (2 : Int32)), (.int (1 : Int32))])) _
                refine XS.iloadN X157.here hx rfl (hb hby at_36) rfl ?_
                show Steps p.tables e below (T157.setTop (mkF m 37 #[.val (.int p1), .val (.int p2), .val (.int (2 : Int32)), .val (.int (2 : Int32)), .val (.ref w_NEXT_KEY), .val (.ref w_NEXT_KEY)] [(.int (2 : Int32)), (.int (2 : Int32)), (.int (1 : Int32))])) _
                refine st159 _ ?_
                show Steps p.tables e below (T159.setTop (mkF m 40 #[.val (.int p1), .val (.int p2), .val (.int (2 : Int32)), .val (.int (2 : Int32)), .val (.ref w_NEXT_KEY), .val (.ref w_NEXT_KEY)] [(.int (1 : Int32)), (.int (1 : Int32))])) _
                refine XS.icmpNo X159.here hx rfl (hb hby at_40) rfl (teq (by decide : (1 : Int32) = (1 : Int32))).2 ?_
                show Steps p.tables e below (T159.setTop (mkF m 43 #[.val (.int p1), .val (.int p2), .val (.int (2 : Int32)), .val (.int (2 : Int32)), .val (.ref w_NEXT_KEY), .val (.ref w_NEXT_KEY)] [])) _
                refine XS.iconst X159.here hx rfl (hb hby at_43) ?_
                show Steps p.tables e below (T159.setTop (mkF m 44 #[.val (.int p1), .val (.int p2), .val (.int (2 : Int32)), .val (.int (2 : Int32)), .val (.ref w_NEXT_KEY), .val (.ref w_NEXT_KEY)] [(.int (1 : Int32))])) _
                refine XS.goto X159.here hx rfl (pc0 := 44) (pc' := 48) rfl (hb hby at_44) (by decide) (by decide) ?_
                show Steps p.tables e below (T159.setTop (mkF m 48 #[.val (.int p1), .val (.int p2), .val (.int (2 : Int32)), .val (.int (2 : Int32)), .val (.ref w_NEXT_KEY), .val (.ref w_NEXT_KEY)] [(.int (1 : Int32))])) _
                exact retN X159 hx (t := .boolean) Bd.returns (by simp) (hb hby at_48) hr
              · show own_Q0 Z p1 p2 w_INTENTION w_TABLE w_NEXT_KEY w_RECORD w_IMPLICIT w_GAP w_INSERT_INTENTION h0 n0 _ T159.heap _
                rw [e159]
                exact ⟨(by rw [own_f0, if_neg hc1, if_neg hc9, if_pos hc17, if_neg hc18, if_neg hc19, if_pos hc20]), N160⟩
            ·
              by_cases hc21 : ((p2 &&& (2147483647 : Int32)) - ((p2 &&& (2147483647 : Int32)) / (7 : Int32)) * (7 : Int32)) = (3 : Int32)
              ·
                have k161 : ∀ t, Steps p.tables e below (s₁.setTop (mkF m 15 #[.val (.int p1), .val (.int p2), .val (.int (2 : Int32)), .unset, .unset, .unset] [(.int (3 : Int32))])) t → Steps p.tables e below (s₁.setTop (entryFrame m #[(.int p1), (.int p2)] maxLocals)) t := by
                  intro t kt
                  refine k133 t ?_
                  rw [hc21]
                  exact kt
                obtain ⟨v162, _, ⟨T162, L162, k162, n162⟩, -, X162, ⟨Lc162, hQ162, l162, y162, z162⟩, st162⟩ := Jvm.LawKit.callS X0 hx (y := (⟨"com/example/kerb/kerb/txn/LockKindCoversPinLaw", "pick", "(I)Lcom/example/kerb/kerb/txn/LockKind;"⟩ : MethodName)) hown (mvT hZ (hw _ (List.mem_of_getElem? (i := 1) rfl))) (mvT hZ (hw _ (List.mem_of_getElem? (i := 2) rfl))) (mvT hZ (hw _ (List.mem_of_getElem? (i := 3) rfl))) (mvT hZ (hw _ (List.mem_of_getElem? (i := 4) rfl))) (by decide) (backOf (W := 0) (own_rm1 l Z a0 hw [] (2 : Int32) w_INTENTION w_TABLE w_NEXT_KEY w_RECORD w_IMPLICIT w_GAP w_INSERT_INTENTION h0 n0 Z0 S_INTENTION S_TABLE S_NEXT_KEY S_RECORD S_IMPLICIT S_GAP S_INSERT_INTENTION) hZ (hw _ (List.mem_of_getElem? (i := 4) rfl)) (hw _ (List.mem_of_getElem? (i := 3) rfl)) (by decide) (by decide)) (g := (mkF m 17 #[.val (.int p1), .val (.int p2), .val (.int (2 : Int32)), .val (.int (3 : Int32)), .unset, .unset] [(.int (2 : Int32))])) rfl (by rw [hml]; rfl) (argsL := [(.int (2 : Int32))]) (rest := []) (lenOf own_pd93 rfl) rfl (by show 2 * 0 + _ ≤ _; exact Nat.le_of_eq rfl) (hb hby at_17) (fun _ _ => ⟨rfl, e0, (by decide : 0 + 0 ≤ _), (by decide : 0 + 0 ≤ _)⟩)
                dsimp only [Pt.U, Pt.locs, Pt.cells, Pt.slots] at X162 l162 y162 z162 st162 hQ162
                subst l162 y162 z162
                obtain ⟨hv162, N162q, e162⟩ := hQ162
                have N163 := Fr.app N0 N162q
                rw [show (own_f1 (2 : Int32) w_INTENTION w_TABLE w_NEXT_KEY w_RECORD w_IMPLICIT w_GAP w_INSERT_INTENTION) = w_NEXT_KEY from by first | rfl | decide | simp [own_f1]] at hv162
                subst hv162
                obtain ⟨v164, _, ⟨T164, L164, k164, n164⟩, -, X164, ⟨Lc164, hQ164, l164, y164, z164⟩, st164⟩ := Jvm.LawKit.callS X162 hx (y := (⟨"com/example/kerb/kerb/txn/LockKindCoversPinLaw", "pick", "(I)Lcom/example/kerb/kerb/txn/LockKind;"⟩ : MethodName)) hown (mvT hZ (hw _ (List.mem_of_getElem? (i := 1) rfl))) (mvT hZ (hw _ (List.mem_of_getElem? (i := 2) rfl))) (mvT hZ (hw _ (List.mem_of_getElem? (i := 3) rfl))) (mvT hZ (hw _ (List.mem_of_getElem? (i := 4) rfl))) (by decide) (backOf (W := 0) (own_rm1 l Z a0 hw [] (3 : Int32) w_INTENTION w_TABLE w_NEXT_KEY w_RECORD w_IMPLICIT w_GAP w_INSERT_INTENTION h0 n0 Z0 S_INTENTION S_TABLE S_NEXT_KEY S_RECORD S_IMPLICIT S_GAP S_INSERT_INTENTION) hZ (hw _ (List.mem_of_getElem? (i := 4) rfl)) (hw _ (List.mem_of_getElem? (i := 3) rfl)) (by decide) (by decide)) (g := (mkF m 23 #[.val (.int p1), .val (.int p2), .val (.int (2 : Int32)), .val (.int (3 : Int32)), .val (.ref w_NEXT_KEY), .unset] [(.int (3 : Int32))])) rfl (by rw [hml]; rfl) (argsL := [(.int (3 : Int32))]) (rest := []) (lenOf own_pd93 rfl) rfl (by show 2 * 0 + _ ≤ _; exact Nat.le_of_eq rfl) (hb hby at_23) (fun _ _ => ⟨rfl, e162, (by decide : 0 + 0 ≤ _), (by decide : 0 + 0 ≤ _)⟩)
                dsimp only [Pt.U, Pt.locs, Pt.cells, Pt.slots] at X164 l164 y164 z164 st164 hQ164
                subst l164 y164 z164
                obtain ⟨hv164, N164q, e164⟩ := hQ164
                have N165 := Fr.app N163 N164q
                rw [show (own_f1 (3 : Int32) w_INTENTION w_TABLE w_NEXT_KEY w_RECORD w_IMPLICIT w_GAP w_INSERT_INTENTION) = w_RECORD from by first | rfl | decide | simp [own_f1]] at hv164
                subst hv164
                obtain ⟨cq166, kq166, q166a, q166b, q166c⟩ := isOf hZ e164 E_w_NEXT_KEY
                obtain ⟨v166, _, ⟨T166, L166, k166, n166⟩, -, X166, ⟨Lc166, hQ166, l166, y166, z166⟩, st166⟩ := X164.virtualBack hx (y := (⟨"com/example/kerb/kerb/txn/LockKind", "covers", "(Lcom/example/kerb/kerb/txn/LockKind;)Z"⟩ : MethodName)) (z := (⟨"com/example/kerb/kerb/txn/LockKind", "covers", "(Lcom/example/kerb/kerb/txn/LockKind;)Z"⟩ : MethodName)) hown (mvT hZ (hw _ (List.mem_of_getElem? (i := 10) rfl))) (mvT hZ (hw _ (List.mem_of_getElem? (i := 11) rfl))) (notFace_of_selects (args := #[]) (mvT hZ (hw _ (List.mem_of_getElem? (i := 13) rfl)))) (mvT hZ (hw _ (List.mem_of_getElem? (i := 13) rfl))) (mvT hZ (hw _ (List.mem_of_getElem? (i := 12) rfl))) (by decide) (backOf (W := 0) (own_rm2 l Z a0 hw [] w_NEXT_KEY w_RECORD (1 : Int32) w_NEXT_KEY w_GAP w_RECORD w_IMPLICIT h0 n0 Z0 F_coversRecord_w_NEXT_KEY S_NEXT_KEY S_GAP S_RECORD S_IMPLICIT) hZ (hw _ (List.mem_of_getElem? (i := 14) rfl)) (hw _ (List.mem_of_getElem? (i := 6) rfl)) (by decide) (by decide)) q166a q166c (g := (mkF m 32 #[.val (.int p1), .val (.int p2), .val (.int (2 : Int32)), .val (.int (3 : Int32)), .val (.ref w_NEXT_KEY), .val (.ref w_RECORD)] [(.ref w_RECORD), (.ref w_NEXT_KEY)])) rfl (by rw [hml]; rfl) (Steps.refl _) (argsL := [(.ref w_RECORD)]) (rest := []) (lenOf own_pd94 rfl) rfl (by show 2 * 0 + _ ≤ _; exact Nat.le_of_eq rfl) (hb hby at_32) (fun _ _ => ⟨rfl, e164, (by decide : 0 + 0 ≤ _), (by decide : 0 + 0 ≤ _)⟩)
                dsimp only [Pt.U, Pt.locs, Pt.cells, Pt.slots] at X166 l166 y166 z166 st166 hQ166
                subst l166 y166 z166
                obtain ⟨hv166, N166q, e166⟩ := hQ166
                have N167 := Fr.app N165 N166q
                rw [show (own_f2 w_NEXT_KEY w_RECORD (1 : Int32) w_NEXT_KEY w_GAP w_RECORD w_IMPLICIT) = (1 : Int32) from by first | rfl | decide | simp [own_f2, ne_NEXT_KEY_RECORD]] at hv166
                subst hv166
                obtain ⟨v168, _, ⟨T168, L168, k168, n168⟩, -, X168, ⟨Lc168, hQ168, l168, y168, z168⟩, st168⟩ := Jvm.LawKit.callS X166 hx (y := (⟨"com/example/kerb/kerb/txn/LockKindCoversPinLaw", "expected", "(II)Z"⟩ : MethodName)) hown (mvT hZ (hw _ (List.mem_of_getElem? (i := 19) rfl))) (mvT hZ (hw _ (List.mem_of_getElem? (i := 20) rfl))) (mvT hZ (hw _ (List.mem_of_getElem? (i := 3) rfl))) (mvT hZ (hw _ (List.mem_of_getElem? (i := 21) rfl))) (by decide) (backOf (W := 1) (own_rm3 l Z a0 hw [] (2 : Int32) (3 : Int32) h0 n0 Z0) hZ (hw _ (List.mem_of_getElem? (i := 21) rfl)) (hw _ (List.mem_of_getElem? (i := 3) rfl)) (by decide) (by decide)) (g := (mkF m 37 #[.val (.int p1), .val (.int p2), .val (.int (2 : Int32)), .val (.int (3 : Int32)), .val (.ref w_NEXT_KEY), .val (.ref w_RECORD)] [(.int (3 : Int32)), (.int (2 : Int32)), (.int (1 : Int32))])) rfl (by rw [hml]; rfl) (argsL := [(.int (2 : Int32)), (.int (3 : Int32))]) (rest := [(.int (1 : Int32))]) (lenOf own_pd95 rfl) rfl (by show 2 * 0 + _ ≤ _; exact Nat.le_of_eq rfl) (hb hby at_37) (fun _ _ => ⟨rfl, e166, (by decide : 0 + 0 ≤ _), (by decide : 0 + 0 ≤ _)⟩)
                dsimp only [Pt.U, Pt.locs, Pt.cells, Pt.slots] at X168 l168 y168 z168 st168 hQ168
                subst l168 y168 z168
                obtain ⟨hv168, N168q, e168⟩ := hQ168
                have N169 := Fr.app N167 N168q
                rw [show (own_f3 (2 : Int32) (3 : Int32)) = (1 : Int32) from by first | rfl | decide | simp [own_f3]] at hv168
                subst hv168
                obtain ⟨fs, hr, hrun, hended, hW, hsame⟩ := X168.leave (v := some (.int (1 : Int32))) (fun h => by rw [Bd.returns] at h; cases h)
                refine ⟨_, _, k161 _ ?_, hrun, hended, _, _, rfl, ?_, ⟨_, rfl⟩, hW, hsame.mono (by decide) (by decide)⟩
                · show Steps p.tables e below (s₁.setTop (mkF m 15 #[.val (.int p1), .val (.int p2), .val (.int (2 : Int32)), .unset, .unset, .unset] [(.int (3 : Int32))])) _
                  refine XS.istoreN X0.here hx rfl (hb hby at_15) rfl (l' := #[.val (.int p1), .val (.int p2), .val (.int (2 : Int32)), .val (.int (3 : Int32)), .unset, .unset]) rfl ?_
                  show Steps p.tables e below (s₁.setTop (mkF m 16 #[.val (.int p1), .val (.int p2), .val (.int (2 : Int32)), .val (.int (3 : Int32)), .unset, .unset] [])) _
                  refine XS.iloadN X0.here hx rfl (hb hby at_16) rfl ?_
                  show Steps p.tables e below (s₁.setTop (mkF m 17 #[.val (.int p1), .val (.int p2), .val (.int (2 : Int32)), .val (.int (3 : Int32)), .unset, .unset] [(.int (2 : Int32))])) _
                  refine st162 _ ?_
                  show Steps p.tables e below (T162.setTop (mkF m 20 #[.val (.int p1), .val (.int p2), .val (.int (2 : Int32)), .val (.int (3 : Int32)), .unset, .unset] [(.ref w_NEXT_KEY)])) _
                  refine XS.astore X162.here hx rfl (hb hby at_20) rfl rfl (l' := #[.val (.int p1), .val (.int p2), .val (.int (2 : Int32)), .val (.int (3 : Int32)), .val (.ref w_NEXT_KEY), .unset]) rfl ?_
                  show Steps p.tables e below (T162.setTop (mkF m 22 #[.val (.int p1), .val (.int p2), .val (.int (2 : Int32)), .val (.int (3 : Int32)), .val (.ref w_NEXT_KEY), .unset] [])) _
                  refine XS.iloadN X162.here hx rfl (hb hby at_22) rfl ?_
                  show Steps p.tables e below (T162.setTop (mkF m 23 #[.val (.int p1), .val (.int p2), .val (.int (2 : Int32)), .val (.int (3 : Int32)), .val (.ref w_NEXT_KEY), .unset] [(.int (3 : Int32))])) _
                  refine st164 _ ?_
                  show Steps p.tables e below (T164.setTop (mkF m 26 #[.val (.int p1), .val (.int p2), .val (.int (2 : Int32)), .val (.int (3 : Int32)), .val (.ref w_NEXT_KEY), .unset] [(.ref w_RECORD)])) _
                  refine XS.astore X164.here hx rfl (hb hby at_26) rfl rfl (l' := #[.val (.int p1), .val (.int p2), .val (.int (2 : Int32)), .val (.int (3 : Int32)), .val (.ref w_NEXT_KEY), .val (.ref w_RECORD)]) rfl ?_
                  show Steps p.tables e below (T164.setTop (mkF m 28 #[.val (.int p1), .val (.int p2), .val (.int (2 : Int32)), .val (.int (3 : Int32)), .val (.ref w_NEXT_KEY), .val (.ref w_RECORD)] [])) _
                  refine XS.aload X164.here hx rfl (hb hby at_28) rfl rfl ?_
                  show Steps p.tables e below (T164.setTop (mkF m 30 #[.val (.int p1), .val (.int p2), .val (.int (2 : Int32)), .val (.int (3 : Int32)), .val (.ref w_NEXT_KEY), .val (.ref w_RECORD)] [(.ref w_NEXT_KEY)])) _
                  refine XS.aload X164.here hx rfl (hb hby at_30) rfl rfl ?_
                  show Steps p.tables e below (T164.setTop (mkF m 32 #[.val (.int p1), .val (.int p2), .val (.int (2 : Int32)), .val (.int (3 : Int32)), .val (.ref w_NEXT_KEY), .val (.ref w_RECORD)] [(.ref w_RECORD), (.ref w_NEXT_KEY)])) _
                  refine st166.trans ?_
                  show Steps p.tables e below (T166.setTop (mkF m 35 #[.val (.int p1), .val (.int p2), .val (.int (2 : Int32)), .val (.int (3 : Int32)), .val (.ref w_NEXT_KEY), .val (.ref w_RECORD)] [(.int (1 : Int32))])) _
                  refine XS.iloadN X166.here hx rfl (hb hby at_35) rfl ?_
                  show Steps p.tables e below (T166.setTop (mkF m 36 #[.val (.int p1), .val (.int p2), .val (.int (2 : Int32)), .val (.int (3 : Int32)), .val (.ref w_NEXT_KEY), .val (.ref w_RECORD)] [(.int (2 : Int32)), (.int (1 : Int32))])) _
                  refine XS.iloadN X166.here hx rfl (hb hby at_36) rfl ?_
                  show Steps p.tables e below (T166.setTop (mkF m 37 #[.val (.int p1), .val (.int p2), .val (.int (2 : Int32)), .val (.int (3 : Int32)), .val (.ref w_NEXT_KEY), .val (.ref w_RECORD)] [(.int (3 : Int32)), (.int (2 : Int32)), (.int (1 : Int32))])) _
                  refine st168 _ ?_
                  show Steps p.tables e below (T168.setTop (mkF m 40 #[.val (.int p1), .val (.int p2), .val (.int (2 : Int32)), .val (.int (3 : Int32)), .val (.ref w_NEXT_KEY), .val (.ref w_RECORD)] [(.int (1 : Int32)), (.int (1 : Int32))])) _
                  refine XS.icmpNo X168.here hx rfl (hb hby at_40) rfl (teq (by decide : (1 : Int32) = (1 : Int32))).2 ?_
                  show Steps p.tables e below (T168.setTop (mkF m 43 #[.val (.int p1), .val (.int p2), .val (.int (2 : Int32)), .val (.int (3 : Int32)), .val (.ref w_NEXT_KEY), .val (.ref w_RECORD)] [])) _
                  refine XS.iconst X168.here hx rfl (hb hby at_43) ?_
                  show Steps p.tables e below (T168.setTop (mkF m 44 #[.val (.int p1), .val (.int p2), .val (.int (2 : Int32)), .val (.int (3 : Int32)), .val (.ref w_NEXT_KEY), .val (.ref w_RECORD)] [(.int (1 : Int32))])) _
                  refine XS.goto X168.here hx rfl (pc0 := 44) (pc' := 48) rfl (hb hby at_44) (by decide) (by decide) ?_
                  show Steps p.tables e below (T168.setTop (mkF m 48 #[.val (.int p1), .val (.int p2), .val (.int (2 : Int32)), .val (.int (3 : Int32)), .val (.ref w_NEXT_KEY), .val (.ref w_RECORD)] [(.int (1 : Int32))])) _
                  exact retN X168 hx (t := .boolean) Bd.returns (by simp) (hb hby at_48) hr
                · show own_Q0 Z p1 p2 w_INTENTION w_TABLE w_NEXT_KEY w_RECORD w_IMPLICIT w_GAP w_INSERT_INTENTION h0 n0 _ T168.heap _
                  rw [e168]
                  exact ⟨(by rw [own_f0, if_neg hc1, if_neg hc9, if_pos hc17, if_neg hc18, if_neg hc19, if_neg hc20, if_pos hc21]), N169⟩
              ·
                by_cases hc22 : ((p2 &&& (2147483647 : Int32)) - ((p2 &&& (2147483647 : Int32)) / (7 : Int32)) * (7 : Int32)) = (4 : Int32)
                ·
                  have k170 : ∀ t, Steps p.tables e below (s₁.setTop (mkF m 15 #[.val (.int p1), .val (.int p2), .val (.int (2 : Int32)), .unset, .unset, .unset] [(.int (4 : Int32))])) t → Steps p.tables e below (s₁.setTop (entryFrame m #[(.int p1), (.int p2)] maxLocals)) t := by
                    intro t kt
                    refine k133 t ?_
                    rw [hc22]
                    exact kt
                  obtain ⟨v171, _, ⟨T171, L171, k171, n171⟩, -, X171, ⟨Lc171, hQ171, l171, y171, z171⟩, st171⟩ := Jvm.LawKit.callS X0 hx (y := (⟨"com/example/kerb/kerb/txn/LockKindCoversPinLaw", "pick", "(I)Lcom/example/kerb/kerb/txn/LockKind;"⟩ : MethodName)) hown (mvT hZ (hw _ (List.mem_of_getElem? (i := 1) rfl))) (mvT hZ (hw _ (List.mem_of_getElem? (i := 2) rfl))) (mvT hZ (hw _ (List.mem_of_getElem? (i := 3) rfl))) (mvT hZ (hw _ (List.mem_of_getElem? (i := 4) rfl))) (by decide) (backOf (W := 0) (own_rm1 l Z a0 hw [] (2 : Int32) w_INTENTION w_TABLE w_NEXT_KEY w_RECORD w_IMPLICIT w_GAP w_INSERT_INTENTION h0 n0 Z0 S_INTENTION S_TABLE S_NEXT_KEY S_RECORD S_IMPLICIT S_GAP S_INSERT_INTENTION) hZ (hw _ (List.mem_of_getElem? (i := 4) rfl)) (hw _ (List.mem_of_getElem? (i := 3) rfl)) (by decide) (by decide)) (g := (mkF m 17 #[.val (.int p1), .val (.int p2), .val (.int (2 : Int32)), .val (.int (4 : Int32)), .unset, .unset] [(.int (2 : Int32))])) rfl (by rw [hml]; rfl) (argsL := [(.int (2 : Int32))]) (rest := []) (lenOf own_pd93 rfl) rfl (by show 2 * 0 + _ ≤ _; exact Nat.le_of_eq rfl) (hb hby at_17) (fun _ _ => ⟨rfl, e0, (by decide : 0 + 0 ≤ _), (by decide : 0 + 0 ≤ _)⟩)
                  dsimp only [Pt.U, Pt.locs, Pt.cells, Pt.slots] at X171 l171 y171 z171 st171 hQ171
                  subst l171 y171 z171
                  obtain ⟨hv171, N171q, e171⟩ := hQ171
                  have N172 := Fr.app N0 N171q
                  rw [show (own_f1 (2 : Int32) w_INTENTION w_TABLE w_NEXT_KEY w_RECORD w_IMPLICIT w_GAP w_INSERT_INTENTION) = w_NEXT_KEY from by first | rfl | decide | simp [own_f1]] at hv171
                  subst hv171
                  obtain ⟨v173, _, ⟨T173, L173, k173, n173⟩, -, X173, ⟨Lc173, hQ173, l173, y173, z173⟩, st173⟩ := Jvm.LawKit.callS X171 hx (y := (⟨"com/example/kerb/kerb/txn/LockKindCoversPinLaw", "pick", "(I)Lcom/example/kerb/kerb/txn/LockKind;"⟩ : MethodName)) hown (mvT hZ (hw _ (List.mem_of_getElem? (i := 1) rfl))) (mvT hZ (hw _ (List.mem_of_getElem? (i := 2) rfl))) (mvT hZ (hw _ (List.mem_of_getElem? (i := 3) rfl))) (mvT hZ (hw _ (List.mem_of_getElem? (i := 4) rfl))) (by decide) (backOf (W := 0) (own_rm1 l Z a0 hw [] (4 : Int32) w_INTENTION w_TABLE w_NEXT_KEY w_RECORD w_IMPLICIT w_GAP w_INSERT_INTENTION h0 n0 Z0 S_INTENTION S_TABLE S_NEXT_KEY S_RECORD S_IMPLICIT S_GAP S_INSERT_INTENTION) hZ (hw _ (List.mem_of_getElem? (i := 4) rfl)) (hw _ (List.mem_of_getElem? (i := 3) rfl)) (by decide) (by decide)) (g := (mkF m 23 #[.val (.int p1), .val (.int p2), .val (.int (2 : Int32)), .val (.int (4 : Int32)), .val (.ref w_NEXT_KEY), .unset] [(.int (4 : Int32))])) rfl (by rw [hml]; rfl) (argsL := [(.int (4 : Int32))]) (rest := []) (lenOf own_pd93 rfl) rfl (by show 2 * 0 + _ ≤ _; exact Nat.le_of_eq rfl) (hb hby at_23) (fun _ _ => ⟨rfl, e171, (by decide : 0 + 0 ≤ _), (by decide : 0 + 0 ≤ _)⟩)
                  dsimp only [Pt.U, Pt.locs, Pt.cells, Pt.slots] at X173 l173 y173 z173 st173 hQ173
                  subst l173 y173 z173
                  obtain ⟨hv173, N173q, e173⟩ := hQ173
                  have N174 := Fr.app N172 N173q
                  rw [show (own_f1 (4 : Int32) w_INTENTION w_TABLE w_NEXT_KEY w_RECORD w_IMPLICIT w_GAP w_INSERT_INTENTION) = w_IMPLICIT from by first | rfl | decide | simp [own_f1]] at hv173
                  subst hv173
                  obtain ⟨cq175, kq175, q175a, q175b, q175c⟩ := isOf hZ e173 E_w_NEXT_KEY
                  obtain ⟨v175, _, ⟨T175, L175, k175, n175⟩, -, X175, ⟨Lc175, hQ175, l175, y175, z175⟩, st175⟩ := X173.virtualBack hx (y := (⟨"com/example/kerb/kerb/txn/LockKind", "covers", "(Lcom/example/kerb/kerb/txn/LockKind;)Z"⟩ : MethodName)) (z := (⟨"com/example/kerb/kerb/txn/LockKind", "covers", "(Lcom/example/kerb/kerb/txn/LockKind;)Z"⟩ : MethodName)) hown (mvT hZ (hw _ (List.mem_of_getElem? (i := 10) rfl))) (mvT hZ (hw _ (List.mem_of_getElem? (i := 11) rfl))) (notFace_of_selects (args := #[]) (mvT hZ (hw _ (List.mem_of_getElem? (i := 13) rfl)))) (mvT hZ (hw _ (List.mem_of_getElem? (i := 13) rfl))) (mvT hZ (hw _ (List.mem_of_getElem? (i := 12) rfl))) (by decide) (backOf (W := 0) (own_rm2 l Z a0 hw [] w_NEXT_KEY w_IMPLICIT (1 : Int32) w_NEXT_KEY w_GAP w_RECORD w_IMPLICIT h0 n0 Z0 F_coversRecord_w_NEXT_KEY S_NEXT_KEY S_GAP S_RECORD S_IMPLICIT) hZ (hw _ (List.mem_of_getElem? (i := 14) rfl)) (hw _ (List.mem_of_getElem? (i := 6) rfl)) (by decide) (by decide)) q175a q175c (g := (mkF m 32 #[.val (.int p1), .val (.int p2), .val (.int (2 : Int32)), .val (.int (4 : Int32)), .val (.ref w_NEXT_KEY), .val (.ref w_IMPLICIT)] [(.ref w_IMPLICIT), (.ref w_NEXT_KEY)])) rfl (by rw [hml]; rfl) (Steps.refl _) (argsL := [(.ref w_IMPLICIT)]) (rest := []) (lenOf own_pd94 rfl) rfl (by show 2 * 0 + _ ≤ _; exact Nat.le_of_eq rfl) (hb hby at_32) (fun _ _ => ⟨rfl, e173, (by decide : 0 + 0 ≤ _), (by decide : 0 + 0 ≤ _)⟩)
                  dsimp only [Pt.U, Pt.locs, Pt.cells, Pt.slots] at X175 l175 y175 z175 st175 hQ175
                  subst l175 y175 z175
                  obtain ⟨hv175, N175q, e175⟩ := hQ175
                  have N176 := Fr.app N174 N175q
                  rw [show (own_f2 w_NEXT_KEY w_IMPLICIT (1 : Int32) w_NEXT_KEY w_GAP w_RECORD w_IMPLICIT) = (1 : Int32) from by first | rfl | decide | simp [own_f2, ne_NEXT_KEY_IMPLICIT, ne_RECORD_IMPLICIT.symm]] at hv175
                  subst hv175
                  obtain ⟨v177, _, ⟨T177, L177, k177, n177⟩, -, X177, ⟨Lc177, hQ177, l177, y177, z177⟩, st177⟩ := Jvm.LawKit.callS X175 hx (y := (⟨"com/example/kerb/kerb/txn/LockKindCoversPinLaw", "expected", "(II)Z"⟩ : MethodName)) hown (mvT hZ (hw _ (List.mem_of_getElem? (i := 19) rfl))) (mvT hZ (hw _ (List.mem_of_getElem? (i := 20) rfl))) (mvT hZ (hw _ (List.mem_of_getElem? (i := 3) rfl))) (mvT hZ (hw _ (List.mem_of_getElem? (i := 21) rfl))) (by decide) (backOf (W := 1) (own_rm3 l Z a0 hw [] (2 : Int32) (4 : Int32) h0 n0 Z0) hZ (hw _ (List.mem_of_getElem? (i := 21) rfl)) (hw _ (List.mem_of_getElem? (i := 3) rfl)) (by decide) (by decide)) (g := (mkF m 37 #[.val (.int p1), .val (.int p2), .val (.int (2 : Int32)), .val (.int (4 : Int32)), .val (.ref w_NEXT_KEY), .val (.ref w_IMPLICIT)] [(.int (4 : Int32)), (.int (2 : Int32)), (.int (1 : Int32))])) rfl (by rw [hml]; rfl) (argsL := [(.int (2 : Int32)), (.int (4 : Int32))]) (rest := [(.int (1 : Int32))]) (lenOf own_pd95 rfl) rfl (by show 2 * 0 + _ ≤ _; exact Nat.le_of_eq rfl) (hb hby at_37) (fun _ _ => ⟨rfl, e175, (by decide : 0 + 0 ≤ _), (by decide : 0 + 0 ≤ _)⟩)
                  dsimp only [Pt.U, Pt.locs, Pt.cells, Pt.slots] at X177 l177 y177 z177 st177 hQ177
                  subst l177 y177 z177
                  obtain ⟨hv177, N177q, e177⟩ := hQ177
                  have N178 := Fr.app N176 N177q
                  rw [show (own_f3 (2 : Int32) (4 : Int32)) = (1 : Int32) from by first | rfl | decide | simp [own_f3]] at hv177
                  subst hv177
                  obtain ⟨fs, hr, hrun, hended, hW, hsame⟩ := X177.leave (v := some (.int (1 : Int32))) (fun h => by rw [Bd.returns] at h; cases h)
                  refine ⟨_, _, k170 _ ?_, hrun, hended, _, _, rfl, ?_, ⟨_, rfl⟩, hW, hsame.mono (by decide) (by decide)⟩
                  · show Steps p.tables e below (s₁.setTop (mkF m 15 #[.val (.int p1), .val (.int p2), .val (.int (2 : Int32)), .unset, .unset, .unset] [(.int (4 : Int32))])) _
                    refine XS.istoreN X0.here hx rfl (hb hby at_15) rfl (l' := #[.val (.int p1), .val (.int p2), .val (.int (2 : Int32)), .val (.int (4 : Int32)), .unset, .unset]) rfl ?_
                    show Steps p.tables e below (s₁.setTop (mkF m 16 #[.val (.int p1), .val (.int p2), .val (.int (2 : Int32)), .val (.int (4 : Int32)), .unset, .unset] [])) _
                    refine XS.iloadN X0.here hx rfl (hb hby at_16) rfl ?_
                    show Steps p.tables e below (s₁.setTop (mkF m 17 #[.val (.int p1), .val (.int p2), .val (.int (2 : Int32)), .val (.int (4 : Int32)), .unset, .unset] [(.int (2 : Int32))])) _
                    refine st171 _ ?_
                    show Steps p.tables e below (T171.setTop (mkF m 20 #[.val (.int p1), .val (.int p2), .val (.int (2 : Int32)), .val (.int (4 : Int32)), .unset, .unset] [(.ref w_NEXT_KEY)])) _
                    refine XS.astore X171.here hx rfl (hb hby at_20) rfl rfl (l' := #[.val (.int p1), .val (.int p2), .val (.int (2 : Int32)), .val (.int (4 : Int32)), .val (.ref w_NEXT_KEY), .unset]) rfl ?_
                    show Steps p.tables e below (T171.setTop (mkF m 22 #[.val (.int p1), .val (.int p2), .val (.int (2 : Int32)), .val (.int (4 : Int32)), .val (.ref w_NEXT_KEY), .unset] [])) _
                    refine XS.iloadN X171.here hx rfl (hb hby at_22) rfl ?_
                    show Steps p.tables e below (T171.setTop (mkF m 23 #[.val (.int p1), .val (.int p2), .val (.int (2 : Int32)), .val (.int (4 : Int32)), .val (.ref w_NEXT_KEY), .unset] [(.int (4 : Int32))])) _
                    refine st173 _ ?_
                    show Steps p.tables e below (T173.setTop (mkF m 26 #[.val (.int p1), .val (.int p2), .val (.int (2 : Int32)), .val (.int (4 : Int32)), .val (.ref w_NEXT_KEY), .unset] [(.ref w_IMPLICIT)])) _
                    refine XS.astore X173.here hx rfl (hb hby at_26) rfl rfl (l' := #[.val (.int p1), .val (.int p2), .val (.int (2 : Int32)), .val (.int (4 : Int32)), .val (.ref w_NEXT_KEY), .val (.ref w_IMPLICIT)]) rfl ?_
                    show Steps p.tables e below (T173.setTop (mkF m 28 #[.val (.int p1), .val (.int p2), .val (.int (2 : Int32)), .val (.int (4 : Int32)), .val (.ref w_NEXT_KEY), .val (.ref w_IMPLICIT)] [])) _
                    refine XS.aload X173.here hx rfl (hb hby at_28) rfl rfl ?_
                    show Steps p.tables e below (T173.setTop (mkF m 30 #[.val (.int p1), .val (.int p2), .val (.int (2 : Int32)), .val (.int (4 : Int32)), .val (.ref w_NEXT_KEY), .val (.ref w_IMPLICIT)] [(.ref w_NEXT_KEY)])) _
                    refine XS.aload X173.here hx rfl (hb hby at_30) rfl rfl ?_
                    show Steps p.tables e below (T173.setTop (mkF m 32 #[.val (.int p1), .val (.int p2), .val (.int (2 : Int32)), .val (.int (4 : Int32)), .val (.ref w_NEXT_KEY), .val (.ref w_IMPLICIT)] [(.ref w_IMPLICIT), (.ref w_NEXT_KEY)])) _
                    refine st175.trans ?_
                    show Steps p.tables e below (T175.setTop (mkF m 35 #[.val (.int p1), .val (.int p2), .val (.int (2 : Int32)), .val (.int (4 : Int32)), .val (.ref w_NEXT_KEY), .val (.ref w_IMPLICIT)] [(.int (1 : Int32))])) _
                    refine XS.iloadN X175.here hx rfl (hb hby at_35) rfl ?_
                    show Steps p.tables e below (T175.setTop (mkF m 36 #[.val (.int p1), .val (.int p2), .val (.int (2 : Int32)), .val (.int (4 : Int32)), .val (.ref w_NEXT_KEY), .val (.ref w_IMPLICIT)] [(.int (2 : Int32)), (.int (1 : Int32))])) _
                    refine XS.iloadN X175.here hx rfl (hb hby at_36) rfl ?_
                    show Steps p.tables e below (T175.setTop (mkF m 37 #[.val (.int p1), .val (.int p2), .val (.int (2 : Int32)), .val (.int (4 : Int32)), .val (.ref w_NEXT_KEY), .val (.ref w_IMPLICIT)] [(.int (4 : Int32)), (.int (2 : Int32)), (.int (1 : Int32))])) _
                    refine st177 _ ?_
                    show Steps p.tables e below (T177.setTop (mkF m 40 #[.val (.int p1), .val (.int p2), .val (.int (2 : Int32)), .val (.int (4 : Int32)), .val (.ref w_NEXT_KEY), .val (.ref w_IMPLICIT)] [(.int (1 : Int32)), (.int (1 : Int32))])) _
                    refine XS.icmpNo X177.here hx rfl (hb hby at_40) rfl (teq (by decide : (1 : Int32) = (1 : Int32))).2 ?_
                    show Steps p.tables e below (T177.setTop (mkF m 43 #[.val (.int p1), .val (.int p2), .val (.int (2 : Int32)), .val (.int (4 : Int32)), .val (.ref w_NEXT_KEY), .val (.ref w_IMPLICIT)] [])) _
                    refine XS.iconst X177.here hx rfl (hb hby at_43) ?_
                    show Steps p.tables e below (T177.setTop (mkF m 44 #[.val (.int p1), .val (.int p2), .val (.int (2 : Int32)), .val (.int (4 : Int32)), .val (.ref w_NEXT_KEY), .val (.ref w_IMPLICIT)] [(.int (1 : Int32))])) _
                    refine XS.goto X177.here hx rfl (pc0 := 44) (pc' := 48) rfl (hb hby at_44) (by decide) (by decide) ?_
                    show Steps p.tables e below (T177.setTop (mkF m 48 #[.val (.int p1), .val (.int p2), .val (.int (2 : Int32)), .val (.int (4 : Int32)), .val (.ref w_NEXT_KEY), .val (.ref w_IMPLICIT)] [(.int (1 : Int32))])) _
                    exact retN X177 hx (t := .boolean) Bd.returns (by simp) (hb hby at_48) hr
                  · show own_Q0 Z p1 p2 w_INTENTION w_TABLE w_NEXT_KEY w_RECORD w_IMPLICIT w_GAP w_INSERT_INTENTION h0 n0 _ T177.heap _
                    rw [e177]
                    exact ⟨(by rw [own_f0, if_neg hc1, if_neg hc9, if_pos hc17, if_neg hc18, if_neg hc19, if_neg hc20, if_neg hc21, if_pos hc22]), N178⟩
                ·
                  by_cases hc23 : ((p2 &&& (2147483647 : Int32)) - ((p2 &&& (2147483647 : Int32)) / (7 : Int32)) * (7 : Int32)) = (5 : Int32)
                  ·
                    have k179 : ∀ t, Steps p.tables e below (s₁.setTop (mkF m 15 #[.val (.int p1), .val (.int p2), .val (.int (2 : Int32)), .unset, .unset, .unset] [(.int (5 : Int32))])) t → Steps p.tables e below (s₁.setTop (entryFrame m #[(.int p1), (.int p2)] maxLocals)) t := by
                      intro t kt
                      refine k133 t ?_
                      rw [hc23]
                      exact kt
                    obtain ⟨v180, _, ⟨T180, L180, k180, n180⟩, -, X180, ⟨Lc180, hQ180, l180, y180, z180⟩, st180⟩ := Jvm.LawKit.callS X0 hx (y := (⟨"com/example/kerb/kerb/txn/LockKindCoversPinLaw", "pick", "(I)Lcom/example/kerb/kerb/txn/LockKind;"⟩ : MethodName)) hown (mvT hZ (hw _ (List.mem_of_getElem? (i := 1) rfl))) (mvT hZ (hw _ (List.mem_of_getElem? (i := 2) rfl))) (mvT hZ (hw _ (List.mem_of_getElem? (i := 3) rfl))) (mvT hZ (hw _ (List.mem_of_getElem? (i := 4) rfl))) (by decide) (backOf (W := 0) (own_rm1 l Z a0 hw [] (2 : Int32) w_INTENTION w_TABLE w_NEXT_KEY w_RECORD w_IMPLICIT w_GAP w_INSERT_INTENTION h0 n0 Z0 S_INTENTION S_TABLE S_NEXT_KEY S_RECORD S_IMPLICIT S_GAP S_INSERT_INTENTION) hZ (hw _ (List.mem_of_getElem? (i := 4) rfl)) (hw _ (List.mem_of_getElem? (i := 3) rfl)) (by decide) (by decide)) (g := (mkF m 17 #[.val (.int p1), .val (.int p2), .val (.int (2 : Int32)), .val (.int (5 : Int32)), .unset, .unset] [(.int (2 : Int32))])) rfl (by rw [hml]; rfl) (argsL := [(.int (2 : Int32))]) (rest := []) (lenOf own_pd93 rfl) rfl (by show 2 * 0 + _ ≤ _; exact Nat.le_of_eq rfl) (hb hby at_17) (fun _ _ => ⟨rfl, e0, (by decide : 0 + 0 ≤ _), (by decide : 0 + 0 ≤ _)⟩)
                    dsimp only [Pt.U, Pt.locs, Pt.cells, Pt.slots] at X180 l180 y180 z180 st180 hQ180
                    subst l180 y180 z180
                    obtain ⟨hv180, N180q, e180⟩ := hQ180
                    have N181 := Fr.app N0 N180q
                    rw [show (own_f1 (2 : Int32) w_INTENTION w_TABLE w_NEXT_KEY w_RECORD w_IMPLICIT w_GAP w_INSERT_INTENTION) = w_NEXT_KEY from by first | rfl | decide | simp [own_f1]] at hv180
                    subst hv180
                    obtain ⟨v182, _, ⟨T182, L182, k182, n182⟩, -, X182, ⟨Lc182, hQ182, l182, y182, z182⟩, st182⟩ := Jvm.LawKit.callS X180 hx (y := (⟨"com/example/kerb/kerb/txn/LockKindCoversPinLaw", "pick", "(I)Lcom/example/kerb/kerb/txn/LockKind;"⟩ : MethodName)) hown (mvT hZ (hw _ (List.mem_of_getElem? (i := 1) rfl))) (mvT hZ (hw _ (List.mem_of_getElem? (i := 2) rfl))) (mvT hZ (hw _ (List.mem_of_getElem? (i := 3) rfl))) (mvT hZ (hw _ (List.mem_of_getElem? (i := 4) rfl))) (by decide) (backOf (W := 0) (own_rm1 l Z a0 hw [] (5 : Int32) w_INTENTION w_TABLE w_NEXT_KEY w_RECORD w_IMPLICIT w_GAP w_INSERT_INTENTION h0 n0 Z0 S_INTENTION S_TABLE S_NEXT_KEY S_RECORD S_IMPLICIT S_GAP S_INSERT_INTENTION) hZ (hw _ (List.mem_of_getElem? (i := 4) rfl)) (hw _ (List.mem_of_getElem? (i := 3) rfl)) (by decide) (by decide)) (g := (mkF m 23 #[.val (.int p1), .val (.int p2), .val (.int (2 : Int32)), .val (.int (5 : Int32)), .val (.ref w_NEXT_KEY), .unset] [(.int (5 : Int32))])) rfl (by rw [hml]; rfl) (argsL := [(.int (5 : Int32))]) (rest := []) (lenOf own_pd93 rfl) rfl (by show 2 * 0 + _ ≤ _; exact Nat.le_of_eq rfl) (hb hby at_23) (fun _ _ => ⟨rfl, e180, (by decide : 0 + 0 ≤ _), (by decide : 0 + 0 ≤ _)⟩)
                    dsimp only [Pt.U, Pt.locs, Pt.cells, Pt.slots] at X182 l182 y182 z182 st182 hQ182
                    subst l182 y182 z182
                    obtain ⟨hv182, N182q, e182⟩ := hQ182
                    have N183 := Fr.app N181 N182q
                    rw [show (own_f1 (5 : Int32) w_INTENTION w_TABLE w_NEXT_KEY w_RECORD w_IMPLICIT w_GAP w_INSERT_INTENTION) = w_GAP from by first | rfl | decide | simp [own_f1]] at hv182
                    subst hv182
                    obtain ⟨cq184, kq184, q184a, q184b, q184c⟩ := isOf hZ e182 E_w_NEXT_KEY
                    obtain ⟨v184, _, ⟨T184, L184, k184, n184⟩, -, X184, ⟨Lc184, hQ184, l184, y184, z184⟩, st184⟩ := X182.virtualBack hx (y := (⟨"com/example/kerb/kerb/txn/LockKind", "covers", "(Lcom/example/kerb/kerb/txn/LockKind;)Z"⟩ : MethodName)) (z := (⟨"com/example/kerb/kerb/txn/LockKind", "covers", "(Lcom/example/kerb/kerb/txn/LockKind;)Z"⟩ : MethodName)) hown (mvT hZ (hw _ (List.mem_of_getElem? (i := 10) rfl))) (mvT hZ (hw _ (List.mem_of_getElem? (i := 11) rfl))) (notFace_of_selects (args := #[]) (mvT hZ (hw _ (List.mem_of_getElem? (i := 13) rfl)))) (mvT hZ (hw _ (List.mem_of_getElem? (i := 13) rfl))) (mvT hZ (hw _ (List.mem_of_getElem? (i := 12) rfl))) (by decide) (backOf (W := 0) (own_rm2 l Z a0 hw [] w_NEXT_KEY w_GAP (1 : Int32) w_NEXT_KEY w_GAP w_RECORD w_IMPLICIT h0 n0 Z0 F_coversRecord_w_NEXT_KEY S_NEXT_KEY S_GAP S_RECORD S_IMPLICIT) hZ (hw _ (List.mem_of_getElem? (i := 14) rfl)) (hw _ (List.mem_of_getElem? (i := 6) rfl)) (by decide) (by decide)) q184a q184c (g := (mkF m 32 #[.val (.int p1), .val (.int p2), .val (.int (2 : Int32)), .val (.int (5 : Int32)), .val (.ref w_NEXT_KEY), .val (.ref w_GAP)] [(.ref w_GAP), (.ref w_NEXT_KEY)])) rfl (by rw [hml]; rfl) (Steps.refl _) (argsL := [(.ref w_GAP)]) (rest := []) (lenOf own_pd94 rfl) rfl (by show 2 * 0 + _ ≤ _; exact Nat.le_of_eq rfl) (hb hby at_32) (fun _ _ => ⟨rfl, e182, (by decide : 0 + 0 ≤ _), (by decide : 0 + 0 ≤ _)⟩)
                    dsimp only [Pt.U, Pt.locs, Pt.cells, Pt.slots] at X184 l184 y184 z184 st184 hQ184
                    subst l184 y184 z184
                    obtain ⟨hv184, N184q, e184⟩ := hQ184
                    have N185 := Fr.app N183 N184q
                    rw [show (own_f2 w_NEXT_KEY w_GAP (1 : Int32) w_NEXT_KEY w_GAP w_RECORD w_IMPLICIT) = (1 : Int32) from by first | rfl | decide | simp [own_f2, ne_IMPLICIT_GAP.symm, ne_NEXT_KEY_GAP, ne_RECORD_GAP.symm]] at hv184
                    subst hv184
                    obtain ⟨v186, _, ⟨T186, L186, k186, n186⟩, -, X186, ⟨Lc186, hQ186, l186, y186, z186⟩, st186⟩ := Jvm.LawKit.callS X184 hx (y := (⟨"com/example/kerb/kerb/txn/LockKindCoversPinLaw", "expected", "(II)Z"⟩ : MethodName)) hown (mvT hZ (hw _ (List.mem_of_getElem? (i := 19) rfl))) (mvT hZ (hw _ (List.mem_of_getElem? (i := 20) rfl))) (mvT hZ (hw _ (List.mem_of_getElem? (i := 3) rfl))) (mvT hZ (hw _ (List.mem_of_getElem? (i := 21) rfl))) (by decide) (backOf (W := 1) (own_rm3 l Z a0 hw [] (2 : Int32) (5 : Int32) h0 n0 Z0) hZ (hw _ (List.mem_of_getElem? (i := 21) rfl)) (hw _ (List.mem_of_getElem? (i := 3) rfl)) (by decide) (by decide)) (g := (mkF m 37 #[.val (.int p1), .val (.int p2), .val (.int (2 : Int32)), .val (.int (5 : Int32)), .val (.ref w_NEXT_KEY), .val (.ref w_GAP)] [(.int (5 : Int32)), (.int (2 : Int32)), (.int (1 : Int32))])) rfl (by rw [hml]; rfl) (argsL := [(.int (2 : Int32)), (.int (5 : Int32))]) (rest := [(.int (1 : Int32))]) (lenOf own_pd95 rfl) rfl (by show 2 * 0 + _ ≤ _; exact Nat.le_of_eq rfl) (hb hby at_37) (fun _ _ => ⟨rfl, e184, (by decide : 0 + 0 ≤ _), (by decide : 0 + 0 ≤ _)⟩)
                    dsimp only [Pt.U, Pt.locs, Pt.cells, Pt.slots] at X186 l186 y186 z186 st186 hQ186
                    subst l186 y186 z186
                    obtain ⟨hv186, N186q, e186⟩ := hQ186
                    have N187 := Fr.app N185 N186q
                    rw [show (own_f3 (2 : Int32) (5 : Int32)) = (1 : Int32) from by first | rfl | decide | simp [own_f3]] at hv186
                    subst hv186
                    obtain ⟨fs, hr, hrun, hended, hW, hsame⟩ := X186.leave (v := some (.int (1 : Int32))) (fun h => by rw [Bd.returns] at h; cases h)
                    refine ⟨_, _, k179 _ ?_, hrun, hended, _, _, rfl, ?_, ⟨_, rfl⟩, hW, hsame.mono (by decide) (by decide)⟩
                    · show Steps p.tables e below (s₁.setTop (mkF m 15 #[.val (.int p1), .val (.int p2), .val (.int (2 : Int32)), .unset, .unset, .unset] [(.int (5 : Int32))])) _
                      refine XS.istoreN X0.here hx rfl (hb hby at_15) rfl (l' := #[.val (.int p1), .val (.int p2), .val (.int (2 : Int32)), .val (.int (5 : Int32)), .unset, .unset]) rfl ?_
                      show Steps p.tables e below (s₁.setTop (mkF m 16 #[.val (.int p1), .val (.int p2), .val (.int (2 : Int32)), .val (.int (5 : Int32)), .unset, .unset] [])) _
                      refine XS.iloadN X0.here hx rfl (hb hby at_16) rfl ?_
                      show Steps p.tables e below (s₁.setTop (mkF m 17 #[.val (.int p1), .val (.int p2), .val (.int (2 : Int32)), .val (.int (5 : Int32)), .unset, .unset] [(.int (2 : Int32))])) _
                      refine st180 _ ?_
                      show Steps p.tables e below (T180.setTop (mkF m 20 #[.val (.int p1), .val (.int p2), .val (.int (2 : Int32)), .val (.int (5 : Int32)), .unset, .unset] [(.ref w_NEXT_KEY)])) _
                      refine XS.astore X180.here hx rfl (hb hby at_20) rfl rfl (l' := #[.val (.int p1), .val (.int p2), .val (.int (2 : Int32)), .val (.int (5 : Int32)), .val (.ref w_NEXT_KEY), .unset]) rfl ?_
                      show Steps p.tables e below (T180.setTop (mkF m 22 #[.val (.int p1), .val (.int p2), .val (.int (2 : Int32)), .val (.int (5 : Int32)), .val (.ref w_NEXT_KEY), .unset] [])) _
                      refine XS.iloadN X180.here hx rfl (hb hby at_22) rfl ?_
                      show Steps p.tables e below (T180.setTop (mkF m 23 #[.val (.int p1), .val (.int p2), .val (.int (2 : Int32)), .val (.int (5 : Int32)), .val (.ref w_NEXT_KEY), .unset] [(.int (5 : Int32))])) _
                      refine st182 _ ?_
                      show Steps p.tables e below (T182.setTop (mkF m 26 #[.val (.int p1), .val (.int p2), .val (.int (2 : Int32)), .val (.int (5 : Int32)), .val (.ref w_NEXT_KEY), .unset] [(.ref w_GAP)])) _
                      refine XS.astore X182.here hx rfl (hb hby at_26) rfl rfl (l' := #[.val (.int p1), .val (.int p2), .val (.int (2 : Int32)), .val (.int (5 : Int32)), .val (.ref w_NEXT_KEY), .val (.ref w_GAP)]) rfl ?_
                      show Steps p.tables e below (T182.setTop (mkF m 28 #[.val (.int p1), .val (.int p2), .val (.int (2 : Int32)), .val (.int (5 : Int32)), .val (.ref w_NEXT_KEY), .val (.ref w_GAP)] [])) _
                      refine XS.aload X182.here hx rfl (hb hby at_28) rfl rfl ?_
                      show Steps p.tables e below (T182.setTop (mkF m 30 #[.val (.int p1), .val (.int p2), .val (.int (2 : Int32)), .val (.int (5 : Int32)), .val (.ref w_NEXT_KEY), .val (.ref w_GAP)] [(.ref w_NEXT_KEY)])) _
                      refine XS.aload X182.here hx rfl (hb hby at_30) rfl rfl ?_
                      show Steps p.tables e below (T182.setTop (mkF m 32 #[.val (.int p1), .val (.int p2), .val (.int (2 : Int32)), .val (.int (5 : Int32)), .val (.ref w_NEXT_KEY), .val (.ref w_GAP)] [(.ref w_GAP), (.ref w_NEXT_KEY)])) _
                      refine st184.trans ?_
                      show Steps p.tables e below (T184.setTop (mkF m 35 #[.val (.int p1), .val (.int p2), .val (.int (2 : Int32)), .val (.int (5 : Int32)), .val (.ref w_NEXT_KEY), .val (.ref w_GAP)] [(.int (1 : Int32))])) _
                      refine XS.iloadN X184.here hx rfl (hb hby at_35) rfl ?_
                      show Steps p.tables e below (T184.setTop (mkF m 36 #[.val (.int p1), .val (.int p2), .val (.int (2 : Int32)), .val (.int (5 : Int32)), .val (.ref w_NEXT_KEY), .val (.ref w_GAP)] [(.int (2 : Int32)), (.int (1 : Int32))])) _
                      refine XS.iloadN X184.here hx rfl (hb hby at_36) rfl ?_
                      show Steps p.tables e below (T184.setTop (mkF m 37 #[.val (.int p1), .val (.int p2), .val (.int (2 : Int32)), .val (.int (5 : Int32)), .val (.ref w_NEXT_KEY), .val (.ref w_GAP)] [(.int (5 : Int32)), (.int (2 : Int32)), (.int (1 : Int32))])) _
                      refine st186 _ ?_
                      show Steps p.tables e below (T186.setTop (mkF m 40 #[.val (.int p1), .val (.int p2), .val (.int (2 : Int32)), .val (.int (5 : Int32)), .val (.ref w_NEXT_KEY), .val (.ref w_GAP)] [(.int (1 : Int32)), (.int (1 : Int32))])) _
                      refine XS.icmpNo X186.here hx rfl (hb hby at_40) rfl (teq (by decide : (1 : Int32) = (1 : Int32))).2 ?_
                      show Steps p.tables e below (T186.setTop (mkF m 43 #[.val (.int p1), .val (.int p2), .val (.int (2 : Int32)), .val (.int (5 : Int32)), .val (.ref w_NEXT_KEY), .val (.ref w_GAP)] [])) _
                      refine XS.iconst X186.here hx rfl (hb hby at_43) ?_
                      show Steps p.tables e below (T186.setTop (mkF m 44 #[.val (.int p1), .val (.int p2), .val (.int (2 : Int32)), .val (.int (5 : Int32)), .val (.ref w_NEXT_KEY), .val (.ref w_GAP)] [(.int (1 : Int32))])) _
                      refine XS.goto X186.here hx rfl (pc0 := 44) (pc' := 48) rfl (hb hby at_44) (by decide) (by decide) ?_
                      show Steps p.tables e below (T186.setTop (mkF m 48 #[.val (.int p1), .val (.int p2), .val (.int (2 : Int32)), .val (.int (5 : Int32)), .val (.ref w_NEXT_KEY), .val (.ref w_GAP)] [(.int (1 : Int32))])) _
                      exact retN X186 hx (t := .boolean) Bd.returns (by simp) (hb hby at_48) hr
                    · show own_Q0 Z p1 p2 w_INTENTION w_TABLE w_NEXT_KEY w_RECORD w_IMPLICIT w_GAP w_INSERT_INTENTION h0 n0 _ T186.heap _
                      rw [e186]
                      exact ⟨(by rw [own_f0, if_neg hc1, if_neg hc9, if_pos hc17, if_neg hc18, if_neg hc19, if_neg hc20, if_neg hc21, if_neg hc22, if_pos hc23]), N187⟩
                  ·
                    have hc24 : ((p2 &&& (2147483647 : Int32)) - ((p2 &&& (2147483647 : Int32)) / (7 : Int32)) * (7 : Int32)) = (6 : Int32) := own_exh p2 hc18 hc19 hc20 hc21 hc22 hc23
                    have k188 : ∀ t, Steps p.tables e below (s₁.setTop (mkF m 15 #[.val (.int p1), .val (.int p2), .val (.int (2 : Int32)), .unset, .unset, .unset] [(.int (6 : Int32))])) t → Steps p.tables e below (s₁.setTop (entryFrame m #[(.int p1), (.int p2)] maxLocals)) t := by
                      intro t kt
                      refine k133 t ?_
                      rw [hc24]
                      exact kt
                    obtain ⟨v189, _, ⟨T189, L189, k189, n189⟩, -, X189, ⟨Lc189, hQ189, l189, y189, z189⟩, st189⟩ := Jvm.LawKit.callS X0 hx (y := (⟨"com/example/kerb/kerb/txn/LockKindCoversPinLaw", "pick", "(I)Lcom/example/kerb/kerb/txn/LockKind;"⟩ : MethodName)) hown (mvT hZ (hw _ (List.mem_of_getElem? (i := 1) rfl))) (mvT hZ (hw _ (List.mem_of_getElem? (i := 2) rfl))) (mvT hZ (hw _ (List.mem_of_getElem? (i := 3) rfl))) (mvT hZ (hw _ (List.mem_of_getElem? (i := 4) rfl))) (by decide) (backOf (W := 0) (own_rm1 l Z a0 hw [] (2 : Int32) w_INTENTION w_TABLE w_NEXT_KEY w_RECORD w_IMPLICIT w_GAP w_INSERT_INTENTION h0 n0 Z0 S_INTENTION S_TABLE S_NEXT_KEY S_RECORD S_IMPLICIT S_GAP S_INSERT_INTENTION) hZ (hw _ (List.mem_of_getElem? (i := 4) rfl)) (hw _ (List.mem_of_getElem? (i := 3) rfl)) (by decide) (by decide)) (g := (mkF m 17 #[.val (.int p1), .val (.int p2), .val (.int (2 : Int32)), .val (.int (6 : Int32)), .unset, .unset] [(.int (2 : Int32))])) rfl (by rw [hml]; rfl) (argsL := [(.int (2 : Int32))]) (rest := []) (lenOf own_pd93 rfl) rfl (by show 2 * 0 + _ ≤ _; exact Nat.le_of_eq rfl) (hb hby at_17) (fun _ _ => ⟨rfl, e0, (by decide : 0 + 0 ≤ _), (by decide : 0 + 0 ≤ _)⟩)
                    dsimp only [Pt.U, Pt.locs, Pt.cells, Pt.slots] at X189 l189 y189 z189 st189 hQ189
                    subst l189 y189 z189
                    obtain ⟨hv189, N189q, e189⟩ := hQ189
                    have N190 := Fr.app N0 N189q
                    rw [show (own_f1 (2 : Int32) w_INTENTION w_TABLE w_NEXT_KEY w_RECORD w_IMPLICIT w_GAP w_INSERT_INTENTION) = w_NEXT_KEY from by first | rfl | decide | simp [own_f1]] at hv189
                    subst hv189
                    obtain ⟨v191, _, ⟨T191, L191, k191, n191⟩, -, X191, ⟨Lc191, hQ191, l191, y191, z191⟩, st191⟩ := Jvm.LawKit.callS X189 hx (y := (⟨"com/example/kerb/kerb/txn/LockKindCoversPinLaw", "pick", "(I)Lcom/example/kerb/kerb/txn/LockKind;"⟩ : MethodName)) hown (mvT hZ (hw _ (List.mem_of_getElem? (i := 1) rfl))) (mvT hZ (hw _ (List.mem_of_getElem? (i := 2) rfl))) (mvT hZ (hw _ (List.mem_of_getElem? (i := 3) rfl))) (mvT hZ (hw _ (List.mem_of_getElem? (i := 4) rfl))) (by decide) (backOf (W := 0) (own_rm1 l Z a0 hw [] (6 : Int32) w_INTENTION w_TABLE w_NEXT_KEY w_RECORD w_IMPLICIT w_GAP w_INSERT_INTENTION h0 n0 Z0 S_INTENTION S_TABLE S_NEXT_KEY S_RECORD S_IMPLICIT S_GAP S_INSERT_INTENTION) hZ (hw _ (List.mem_of_getElem? (i := 4) rfl)) (hw _ (List.mem_of_getElem? (i := 3) rfl)) (by decide) (by decide)) (g := (mkF m 23 #[.val (.int p1), .val (.int p2), .val (.int (2 : Int32)), .val (.int (6 : Int32)), .val (.ref w_NEXT_KEY), .unset] [(.int (6 : Int32))])) rfl (by rw [hml]; rfl) (argsL := [(.int (6 : Int32))]) (rest := []) (lenOf own_pd93 rfl) rfl (by show 2 * 0 + _ ≤ _; exact Nat.le_of_eq rfl) (hb hby at_23) (fun _ _ => ⟨rfl, e189, (by decide : 0 + 0 ≤ _), (by decide : 0 + 0 ≤ _)⟩)
                    dsimp only [Pt.U, Pt.locs, Pt.cells, Pt.slots] at X191 l191 y191 z191 st191 hQ191
                    subst l191 y191 z191
                    obtain ⟨hv191, N191q, e191⟩ := hQ191
                    have N192 := Fr.app N190 N191q
                    rw [show (own_f1 (6 : Int32) w_INTENTION w_TABLE w_NEXT_KEY w_RECORD w_IMPLICIT w_GAP w_INSERT_INTENTION) = w_INSERT_INTENTION from by first | rfl | decide | simp [own_f1]] at hv191
                    subst hv191
                    obtain ⟨cq193, kq193, q193a, q193b, q193c⟩ := isOf hZ e191 E_w_NEXT_KEY
                    obtain ⟨v193, _, ⟨T193, L193, k193, n193⟩, -, X193, ⟨Lc193, hQ193, l193, y193, z193⟩, st193⟩ := X191.virtualBack hx (y := (⟨"com/example/kerb/kerb/txn/LockKind", "covers", "(Lcom/example/kerb/kerb/txn/LockKind;)Z"⟩ : MethodName)) (z := (⟨"com/example/kerb/kerb/txn/LockKind", "covers", "(Lcom/example/kerb/kerb/txn/LockKind;)Z"⟩ : MethodName)) hown (mvT hZ (hw _ (List.mem_of_getElem? (i := 10) rfl))) (mvT hZ (hw _ (List.mem_of_getElem? (i := 11) rfl))) (notFace_of_selects (args := #[]) (mvT hZ (hw _ (List.mem_of_getElem? (i := 13) rfl)))) (mvT hZ (hw _ (List.mem_of_getElem? (i := 13) rfl))) (mvT hZ (hw _ (List.mem_of_getElem? (i := 12) rfl))) (by decide) (backOf (W := 0) (own_rm2 l Z a0 hw [] w_NEXT_KEY w_INSERT_INTENTION (1 : Int32) w_NEXT_KEY w_GAP w_RECORD w_IMPLICIT h0 n0 Z0 F_coversRecord_w_NEXT_KEY S_NEXT_KEY S_GAP S_RECORD S_IMPLICIT) hZ (hw _ (List.mem_of_getElem? (i := 14) rfl)) (hw _ (List.mem_of_getElem? (i := 6) rfl)) (by decide) (by decide)) q193a q193c (g := (mkF m 32 #[.val (.int p1), .val (.int p2), .val (.int (2 : Int32)), .val (.int (6 : Int32)), .val (.ref w_NEXT_KEY), .val (.ref w_INSERT_INTENTION)] [(.ref w_INSERT_INTENTION), (.ref w_NEXT_KEY)])) rfl (by rw [hml]; rfl) (Steps.refl _) (argsL := [(.ref w_INSERT_INTENTION)]) (rest := []) (lenOf own_pd94 rfl) rfl (by show 2 * 0 + _ ≤ _; exact Nat.le_of_eq rfl) (hb hby at_32) (fun _ _ => ⟨rfl, e191, (by decide : 0 + 0 ≤ _), (by decide : 0 + 0 ≤ _)⟩)
                    dsimp only [Pt.U, Pt.locs, Pt.cells, Pt.slots] at X193 l193 y193 z193 st193 hQ193
                    subst l193 y193 z193
                    obtain ⟨hv193, N193q, e193⟩ := hQ193
                    have N194 := Fr.app N192 N193q
                    rw [show (own_f2 w_NEXT_KEY w_INSERT_INTENTION (1 : Int32) w_NEXT_KEY w_GAP w_RECORD w_IMPLICIT) = (0 : Int32) from by first | rfl | decide | simp [own_f2, ne_GAP_INSERT_INTENTION.symm, ne_IMPLICIT_INSERT_INTENTION.symm, ne_NEXT_KEY_INSERT_INTENTION, ne_RECORD_INSERT_INTENTION.symm]] at hv193
                    subst hv193
                    obtain ⟨v195, _, ⟨T195, L195, k195, n195⟩, -, X195, ⟨Lc195, hQ195, l195, y195, z195⟩, st195⟩ := Jvm.LawKit.callS X193 hx (y := (⟨"com/example/kerb/kerb/txn/LockKindCoversPinLaw", "expected", "(II)Z"⟩ : MethodName)) hown (mvT hZ (hw _ (List.mem_of_getElem? (i := 19) rfl))) (mvT hZ (hw _ (List.mem_of_getElem? (i := 20) rfl))) (mvT hZ (hw _ (List.mem_of_getElem? (i := 3) rfl))) (mvT hZ (hw _ (List.mem_of_getElem? (i := 21) rfl))) (by decide) (backOf (W := 1) (own_rm3 l Z a0 hw [] (2 : Int32) (6 : Int32) h0 n0 Z0) hZ (hw _ (List.mem_of_getElem? (i := 21) rfl)) (hw _ (List.mem_of_getElem? (i := 3) rfl)) (by decide) (by decide)) (g := (mkF m 37 #[.val (.int p1), .val (.int p2), .val (.int (2 : Int32)), .val (.int (6 : Int32)), .val (.ref w_NEXT_KEY), .val (.ref w_INSERT_INTENTION)] [(.int (6 : Int32)), (.int (2 : Int32)), (.int (0 : Int32))])) rfl (by rw [hml]; rfl) (argsL := [(.int (2 : Int32)), (.int (6 : Int32))]) (rest := [(.int (0 : Int32))]) (lenOf own_pd95 rfl) rfl (by show 2 * 0 + _ ≤ _; exact Nat.le_of_eq rfl) (hb hby at_37) (fun _ _ => ⟨rfl, e193, (by decide : 0 + 0 ≤ _), (by decide : 0 + 0 ≤ _)⟩)
                    dsimp only [Pt.U, Pt.locs, Pt.cells, Pt.slots] at X195 l195 y195 z195 st195 hQ195
                    subst l195 y195 z195
                    obtain ⟨hv195, N195q, e195⟩ := hQ195
                    have N196 := Fr.app N194 N195q
                    rw [show (own_f3 (2 : Int32) (6 : Int32)) = (0 : Int32) from by first | rfl | decide | simp [own_f3]] at hv195
                    subst hv195
                    obtain ⟨fs, hr, hrun, hended, hW, hsame⟩ := X195.leave (v := some (.int (1 : Int32))) (fun h => by rw [Bd.returns] at h; cases h)
                    refine ⟨_, _, k188 _ ?_, hrun, hended, _, _, rfl, ?_, ⟨_, rfl⟩, hW, hsame.mono (by decide) (by decide)⟩
                    · show Steps p.tables e below (s₁.setTop (mkF m 15 #[.val (.int p1), .val (.int p2), .val (.int (2 : Int32)), .unset, .unset, .unset] [(.int (6 : Int32))])) _
                      refine XS.istoreN X0.here hx rfl (hb hby at_15) rfl (l' := #[.val (.int p1), .val (.int p2), .val (.int (2 : Int32)), .val (.int (6 : Int32)), .unset, .unset]) rfl ?_
                      show Steps p.tables e below (s₁.setTop (mkF m 16 #[.val (.int p1), .val (.int p2), .val (.int (2 : Int32)), .val (.int (6 : Int32)), .unset, .unset] [])) _
                      refine XS.iloadN X0.here hx rfl (hb hby at_16) rfl ?_
                      show Steps p.tables e below (s₁.setTop (mkF m 17 #[.val (.int p1), .val (.int p2), .val (.int (2 : Int32)), .val (.int (6 : Int32)), .unset, .unset] [(.int (2 : Int32))])) _
                      refine st189 _ ?_
                      show Steps p.tables e below (T189.setTop (mkF m 20 #[.val (.int p1), .val (.int p2), .val (.int (2 : Int32)), .val (.int (6 : Int32)), .unset, .unset] [(.ref w_NEXT_KEY)])) _
                      refine XS.astore X189.here hx rfl (hb hby at_20) rfl rfl (l' := #[.val (.int p1), .val (.int p2), .val (.int (2 : Int32)), .val (.int (6 : Int32)), .val (.ref w_NEXT_KEY), .unset]) rfl ?_
                      show Steps p.tables e below (T189.setTop (mkF m 22 #[.val (.int p1), .val (.int p2), .val (.int (2 : Int32)), .val (.int (6 : Int32)), .val (.ref w_NEXT_KEY), .unset] [])) _
                      refine XS.iloadN X189.here hx rfl (hb hby at_22) rfl ?_
                      show Steps p.tables e below (T189.setTop (mkF m 23 #[.val (.int p1), .val (.int p2), .val (.int (2 : Int32)), .val (.int (6 : Int32)), .val (.ref w_NEXT_KEY), .unset] [(.int (6 : Int32))])) _
                      refine st191 _ ?_
                      show Steps p.tables e below (T191.setTop (mkF m 26 #[.val (.int p1), .val (.int p2), .val (.int (2 : Int32)), .val (.int (6 : Int32)), .val (.ref w_NEXT_KEY), .unset] [(.ref w_INSERT_INTENTION)])) _
                      refine XS.astore X191.here hx rfl (hb hby at_26) rfl rfl (l' := #[.val (.int p1), .val (.int p2), .val (.int (2 : Int32)), .val (.int (6 : Int32)), .val (.ref w_NEXT_KEY), .val (.ref w_INSERT_INTENTION)]) rfl ?_
                      show Steps p.tables e below (T191.setTop (mkF m 28 #[.val (.int p1), .val (.int p2), .val (.int (2 : Int32)), .val (.int (6 : Int32)), .val (.ref w_NEXT_KEY), .val (.ref w_INSERT_INTENTION)] [])) _
                      refine XS.aload X191.here hx rfl (hb hby at_28) rfl rfl ?_
                      show Steps p.tables e below (T191.setTop (mkF m 30 #[.val (.int p1), .val (.int p2), .val (.int (2 : Int32)), .val (.int (6 : Int32)), .val (.ref w_NEXT_KEY), .val (.ref w_INSERT_INTENTION)] [(.ref w_NEXT_KEY)])) _
                      refine XS.aload X191.here hx rfl (hb hby at_30) rfl rfl ?_
                      show Steps p.tables e below (T191.setTop (mkF m 32 #[.val (.int p1), .val (.int p2), .val (.int (2 : Int32)), .val (.int (6 : Int32)), .val (.ref w_NEXT_KEY), .val (.ref w_INSERT_INTENTION)] [(.ref w_INSERT_INTENTION), (.ref w_NEXT_KEY)])) _
                      refine st193.trans ?_
                      show Steps p.tables e below (T193.setTop (mkF m 35 #[.val (.int p1), .val (.int p2), .val (.int (2 : Int32)), .val (.int (6 : Int32)), .val (.ref w_NEXT_KEY), .val (.ref w_INSERT_INTENTION)] [(.int (0 : Int32))])) _
                      refine XS.iloadN X193.here hx rfl (hb hby at_35) rfl ?_
                      show Steps p.tables e below (T193.setTop (mkF m 36 #[.val (.int p1), .val (.int p2), .val (.int (2 : Int32)), .val (.int (6 : Int32)), .val (.ref w_NEXT_KEY), .val (.ref w_INSERT_INTENTION)] [(.int (2 : Int32)), (.int (0 : Int32))])) _
                      refine XS.iloadN X193.here hx rfl (hb hby at_36) rfl ?_
                      show Steps p.tables e below (T193.setTop (mkF m 37 #[.val (.int p1), .val (.int p2), .val (.int (2 : Int32)), .val (.int (6 : Int32)), .val (.ref w_NEXT_KEY), .val (.ref w_INSERT_INTENTION)] [(.int (6 : Int32)), (.int (2 : Int32)), (.int (0 : Int32))])) _
                      refine st195 _ ?_
                      show Steps p.tables e below (T195.setTop (mkF m 40 #[.val (.int p1), .val (.int p2), .val (.int (2 : Int32)), .val (.int (6 : Int32)), .val (.ref w_NEXT_KEY), .val (.ref w_INSERT_INTENTION)] [(.int (0 : Int32)), (.int (0 : Int32))])) _
                      refine XS.icmpNo X195.here hx rfl (hb hby at_40) rfl (teq (by decide : (0 : Int32) = (0 : Int32))).2 ?_
                      show Steps p.tables e below (T195.setTop (mkF m 43 #[.val (.int p1), .val (.int p2), .val (.int (2 : Int32)), .val (.int (6 : Int32)), .val (.ref w_NEXT_KEY), .val (.ref w_INSERT_INTENTION)] [])) _
                      refine XS.iconst X195.here hx rfl (hb hby at_43) ?_
                      show Steps p.tables e below (T195.setTop (mkF m 44 #[.val (.int p1), .val (.int p2), .val (.int (2 : Int32)), .val (.int (6 : Int32)), .val (.ref w_NEXT_KEY), .val (.ref w_INSERT_INTENTION)] [(.int (1 : Int32))])) _
                      refine XS.goto X195.here hx rfl (pc0 := 44) (pc' := 48) rfl (hb hby at_44) (by decide) (by decide) ?_
                      show Steps p.tables e below (T195.setTop (mkF m 48 #[.val (.int p1), .val (.int p2), .val (.int (2 : Int32)), .val (.int (6 : Int32)), .val (.ref w_NEXT_KEY), .val (.ref w_INSERT_INTENTION)] [(.int (1 : Int32))])) _
                      exact retN X195 hx (t := .boolean) Bd.returns (by simp) (hb hby at_48) hr
                    · show own_Q0 Z p1 p2 w_INTENTION w_TABLE w_NEXT_KEY w_RECORD w_IMPLICIT w_GAP w_INSERT_INTENTION h0 n0 _ T195.heap _
                      rw [e195]
                      exact ⟨(by rw [own_f0, if_neg hc1, if_neg hc9, if_pos hc17, if_neg hc18, if_neg hc19, if_neg hc20, if_neg hc21, if_neg hc22, if_neg hc23]), N196⟩
      ·
        by_cases hc25 : ((p1 &&& (2147483647 : Int32)) - ((p1 &&& (2147483647 : Int32)) / (7 : Int32)) * (7 : Int32)) = (3 : Int32)
        ·
          have k197 : ∀ t, Steps p.tables e below (s₁.setTop (mkF m 7 #[.val (.int p1), .val (.int p2), .unset, .unset, .unset, .unset] [(.int (3 : Int32))])) t → Steps p.tables e below (s₁.setTop (entryFrame m #[(.int p1), (.int p2)] maxLocals)) t := by
            intro t kt
            refine k1 t ?_
            rw [hc25]
            exact kt
          have k198 : ∀ t, Steps p.tables e below (s₁.setTop (mkF m 15 #[.val (.int p1), .val (.int p2), .val (.int (3 : Int32)), .unset, .unset, .unset] [(.int ((p2 &&& (2147483647 : Int32)) - ((p2 &&& (2147483647 : Int32)) / (7 : Int32)) * (7 : Int32)))])) t → Steps p.tables e below (s₁.setTop (entryFrame m #[(.int p1), (.int p2)] maxLocals)) t := by
            intro t kt
            refine k197 t ?_
            show Steps p.tables e below (s₁.setTop (mkF m 7 #[.val (.int p1), .val (.int p2), .unset, .unset, .unset, .unset] [(.int (3 : Int32))])) _
            refine XS.istoreN X0.here hx rfl (hb hby at_7) rfl (l' := #[.val (.int p1), .val (.int p2), .val (.int (3 : Int32)), .unset, .unset, .unset]) rfl ?_
            show Steps p.tables e below (s₁.setTop (mkF m 8 #[.val (.int p1), .val (.int p2), .val (.int (3 : Int32)), .unset, .unset, .unset] [])) _
            refine XS.iloadN X0.here hx rfl (hb hby at_8) rfl ?_
            show Steps p.tables e below (s₁.setTop (mkF m 9 #[.val (.int p1), .val (.int p2), .val (.int (3 : Int32)), .unset, .unset, .unset] [(.int p2)])) _
            refine X0.ldcInt hx hown (mvT hZ (hw _ (List.mem_of_getElem? (i := 0) rfl))) (g := (mkF m 9 #[.val (.int p1), .val (.int p2), .val (.int (3 : Int32)), .unset, .unset, .unset] [(.int p2)])) rfl (hb hby at_9) _ ?_
            show Steps p.tables e below (s₁.setTop (mkF m 11 #[.val (.int p1), .val (.int p2), .val (.int (3 : Int32)), .unset, .unset, .unset] [(.int (2147483647 : Int32)), (.int p2)])) _
            refine XS.iand X0.here hx rfl (hb hby at_11) rfl ?_
            show Steps p.tables e below (s₁.setTop (mkF m 12 #[.val (.int p1), .val (.int p2), .val (.int (3 : Int32)), .unset, .unset, .unset] [(.int (p2 &&& (2147483647 : Int32)))])) _
            refine XS.bipush X0.here hx rfl (hb hby at_12) ?_
            show Steps p.tables e below (s₁.setTop (mkF m 14 #[.val (.int p1), .val (.int p2), .val (.int (3 : Int32)), .unset, .unset, .unset] [(.int (7 : Int32)), (.int (p2 &&& (2147483647 : Int32)))])) _
            refine XS.irem X0.here hx rfl (hb hby at_14) rfl (by decide) ?_
            exact kt
          by_cases hc26 : ((p2 &&& (2147483647 : Int32)) - ((p2 &&& (2147483647 : Int32)) / (7 : Int32)) * (7 : Int32)) = (0 : Int32)
          ·
            have k199 : ∀ t, Steps p.tables e below (s₁.setTop (mkF m 15 #[.val (.int p1), .val (.int p2), .val (.int (3 : Int32)), .unset, .unset, .unset] [(.int (0 : Int32))])) t → Steps p.tables e below (s₁.setTop (entryFrame m #[(.int p1), (.int p2)] maxLocals)) t := by
              intro t kt
              refine k198 t ?_
              rw [hc26]
              exact kt
            obtain ⟨v200, _, ⟨T200, L200, k200, n200⟩, -, X200, ⟨Lc200, hQ200, l200, y200, z200⟩, st200⟩ := Jvm.LawKit.callS X0 hx (y := (⟨"com/example/kerb/kerb/txn/LockKindCoversPinLaw", "pick", "(I)Lcom/example/kerb/kerb/txn/LockKind;"⟩ : MethodName)) hown (mvT hZ (hw _ (List.mem_of_getElem? (i := 1) rfl))) (mvT hZ (hw _ (List.mem_of_getElem? (i := 2) rfl))) (mvT hZ (hw _ (List.mem_of_getElem? (i := 3) rfl))) (mvT hZ (hw _ (List.mem_of_getElem? (i := 4) rfl))) (by decide) (backOf (W := 0) (own_rm1 l Z a0 hw [] (3 : Int32) w_INTENTION w_TABLE w_NEXT_KEY w_RECORD w_IMPLICIT w_GAP w_INSERT_INTENTION h0 n0 Z0 S_INTENTION S_TABLE S_NEXT_KEY S_RECORD S_IMPLICIT S_GAP S_INSERT_INTENTION) hZ (hw _ (List.mem_of_getElem? (i := 4) rfl)) (hw _ (List.mem_of_getElem? (i := 3) rfl)) (by decide) (by decide)) (g := (mkF m 17 #[.val (.int p1), .val (.int p2), .val (.int (3 : Int32)), .val (.int (0 : Int32)), .unset, .unset] [(.int (3 : Int32))])) rfl (by rw [hml]; rfl) (argsL := [(.int (3 : Int32))]) (rest := []) (lenOf own_pd93 rfl) rfl (by show 2 * 0 + _ ≤ _; exact Nat.le_of_eq rfl) (hb hby at_17) (fun _ _ => ⟨rfl, e0, (by decide : 0 + 0 ≤ _), (by decide : 0 + 0 ≤ _)⟩)
            dsimp only [Pt.U, Pt.locs, Pt.cells, Pt.slots] at X200 l200 y200 z200 st200 hQ200
            subst l200 y200 z200
            obtain ⟨hv200, N200q, e200⟩ := hQ200
            have N201 := Fr.app N0 N200q
            rw [show (own_f1 (3 : Int32) w_INTENTION w_TABLE w_NEXT_KEY w_RECORD w_IMPLICIT w_GAP w_INSERT_INTENTION) = w_RECORD from by first | rfl | decide | simp [own_f1]] at hv200
            subst hv200
            obtain ⟨v202, _, ⟨T202, L202, k202, n202⟩, -, X202, ⟨Lc202, hQ202, l202, y202, z202⟩, st202⟩ := Jvm.LawKit.callS X200 hx (y := (⟨"com/example/kerb/kerb/txn/LockKindCoversPinLaw", "pick", "(I)Lcom/example/kerb/kerb/txn/LockKind;"⟩ : MethodName)) hown (mvT hZ (hw _ (List.mem_of_getElem? (i := 1) rfl))) (mvT hZ (hw _ (List.mem_of_getElem? (i := 2) rfl))) (mvT hZ (hw _ (List.mem_of_getElem? (i := 3) rfl))) (mvT hZ (hw _ (List.mem_of_getElem? (i := 4) rfl))) (by decide) (backOf (W := 0) (own_rm1 l Z a0 hw [] (0 : Int32) w_INTENTION w_TABLE w_NEXT_KEY w_RECORD w_IMPLICIT w_GAP w_INSERT_INTENTION h0 n0 Z0 S_INTENTION S_TABLE S_NEXT_KEY S_RECORD S_IMPLICIT S_GAP S_INSERT_INTENTION) hZ (hw _ (List.mem_of_getElem? (i := 4) rfl)) (hw _ (List.mem_of_getElem? (i := 3) rfl)) (by decide) (by decide)) (g := (mkF m 23 #[.val (.int p1), .val (.int p2), .val (.int (3 : Int32)), .val (.int (0 : Int32)), .val (.ref w_RECORD), .unset] [(.int (0 : Int32))])) rfl (by rw [hml]; rfl) (argsL := [(.int (0 : Int32))]) (rest := []) (lenOf own_pd93 rfl) rfl (by show 2 * 0 + _ ≤ _; exact Nat.le_of_eq rfl) (hb hby at_23) (fun _ _ => ⟨rfl, e200, (by decide : 0 + 0 ≤ _), (by decide : 0 + 0 ≤ _)⟩)
            dsimp only [Pt.U, Pt.locs, Pt.cells, Pt.slots] at X202 l202 y202 z202 st202 hQ202
            subst l202 y202 z202
            obtain ⟨hv202, N202q, e202⟩ := hQ202
            have N203 := Fr.app N201 N202q
            rw [show (own_f1 (0 : Int32) w_INTENTION w_TABLE w_NEXT_KEY w_RECORD w_IMPLICIT w_GAP w_INSERT_INTENTION) = w_INTENTION from by first | rfl | decide | simp [own_f1]] at hv202
            subst hv202
            obtain ⟨cq204, kq204, q204a, q204b, q204c⟩ := isOf hZ e202 E_w_RECORD
            obtain ⟨v204, _, ⟨T204, L204, k204, n204⟩, -, X204, ⟨Lc204, hQ204, l204, y204, z204⟩, st204⟩ := X202.virtualBack hx (y := (⟨"com/example/kerb/kerb/txn/LockKind", "covers", "(Lcom/example/kerb/kerb/txn/LockKind;)Z"⟩ : MethodName)) (z := (⟨"com/example/kerb/kerb/txn/LockKind", "covers", "(Lcom/example/kerb/kerb/txn/LockKind;)Z"⟩ : MethodName)) hown (mvT hZ (hw _ (List.mem_of_getElem? (i := 10) rfl))) (mvT hZ (hw _ (List.mem_of_getElem? (i := 11) rfl))) (notFace_of_selects (args := #[]) (mvT hZ (hw _ (List.mem_of_getElem? (i := 13) rfl)))) (mvT hZ (hw _ (List.mem_of_getElem? (i := 13) rfl))) (mvT hZ (hw _ (List.mem_of_getElem? (i := 12) rfl))) (by decide) (backOf (W := 0) (own_rm2 l Z a0 hw [] w_RECORD w_INTENTION (1 : Int32) w_NEXT_KEY w_GAP w_RECORD w_IMPLICIT h0 n0 Z0 F_coversRecord_w_RECORD S_NEXT_KEY S_GAP S_RECORD S_IMPLICIT) hZ (hw _ (List.mem_of_getElem? (i := 14) rfl)) (hw _ (List.mem_of_getElem? (i := 6) rfl)) (by decide) (by decide)) q204a q204c (g := (mkF m 32 #[.val (.int p1), .val (.int p2), .val (.int (3 : Int32)), .val (.int (0 : Int32)), .val (.ref w_RECORD), .val (.ref w_INTENTION)] [(.ref w_INTENTION), (.ref w_RECORD)])) rfl (by rw [hml]; rfl) (Steps.refl _) (argsL := [(.ref w_INTENTION)]) (rest := []) (lenOf own_pd94 rfl) rfl (by show 2 * 0 + _ ≤ _; exact Nat.le_of_eq rfl) (hb hby at_32) (fun _ _ => ⟨rfl, e202, (by decide : 0 + 0 ≤ _), (by decide : 0 + 0 ≤ _)⟩)
            dsimp only [Pt.U, Pt.locs, Pt.cells, Pt.slots] at X204 l204 y204 z204 st204 hQ204
            subst l204 y204 z204
            obtain ⟨hv204, N204q, e204⟩ := hQ204
            have N205 := Fr.app N203 N204q
            rw [show (own_f2 w_RECORD w_INTENTION (1 : Int32) w_NEXT_KEY w_GAP w_RECORD w_IMPLICIT) = (0 : Int32) from by first | rfl | decide | simp [own_f2, ne_INTENTION_IMPLICIT, ne_INTENTION_RECORD, ne_INTENTION_RECORD.symm, ne_NEXT_KEY_RECORD.symm]] at hv204
            subst hv204
            obtain ⟨v206, _, ⟨T206, L206, k206, n206⟩, -, X206, ⟨Lc206, hQ206, l206, y206, z206⟩, st206⟩ := Jvm.LawKit.callS X204 hx (y := (⟨"com/example/kerb/kerb/txn/LockKindCoversPinLaw", "expected", "(II)Z"⟩ : MethodName)) hown (mvT hZ (hw _ (List.mem_of_getElem? (i := 19) rfl))) (mvT hZ (hw _ (List.mem_of_getElem? (i := 20) rfl))) (mvT hZ (hw _ (List.mem_of_getElem? (i := 3) rfl))) (mvT hZ (hw _ (List.mem_of_getElem? (i := 21) rfl))) (by decide) (backOf (W := 1) (own_rm3 l Z a0 hw [] (3 : Int32) (0 : Int32) h0 n0 Z0) hZ (hw _ (List.mem_of_getElem? (i := 21) rfl)) (hw _ (List.mem_of_getElem? (i := 3) rfl)) (by decide) (by decide)) (g := (mkF m 37 #[.val (.int p1), .val (.int p2), .val (.int (3 : Int32)), .val (.int (0 : Int32)), .val (.ref w_RECORD), .val (.ref w_INTENTION)] [(.int (0 : Int32)), (.int (3 : Int32)), (.int (0 : Int32))])) rfl (by rw [hml]; rfl) (argsL := [(.int (3 : Int32)), (.int (0 : Int32))]) (rest := [(.int (0 : Int32))]) (lenOf own_pd95 rfl) rfl (by show 2 * 0 + _ ≤ _; exact Nat.le_of_eq rfl) (hb hby at_37) (fun _ _ => ⟨rfl, e204, (by decide : 0 + 0 ≤ _), (by decide : 0 + 0 ≤ _)⟩)
            dsimp only [Pt.U, Pt.locs, Pt.cells, Pt.slots] at X206 l206 y206 z206 st206 hQ206
            subst l206 y206 z206
            obtain ⟨hv206, N206q, e206⟩ := hQ206
            have N207 := Fr.app N205 N206q
            rw [show (own_f3 (3 : Int32) (0 : Int32)) = (0 : Int32) from by first | rfl | decide | simp [own_f3]] at hv206
            subst hv206
            obtain ⟨fs, hr, hrun, hended, hW, hsame⟩ := X206.leave (v := some (.int (1 : Int32))) (fun h => by rw [Bd.returns] at h; cases h)
            refine ⟨_, _, k199 _ ?_, hrun, hended, _, _, rfl, ?_, ⟨_, rfl⟩, hW, hsame.mono (by decide) (by decide)⟩
            · show Steps p.tables e below (s₁.setTop (mkF m 15 #[.val (.int p1), .val (.int p2), .val (.int (3 : Int32)), .unset, .unset, .unset] [(.int (0 : Int32))])) _
              refine XS.istoreN X0.here hx rfl (hb hby at_15) rfl (l' := #[.val (.int p1), .val (.int p2), .val (.int (3 : Int32)), .val (.int (0 : Int32)), .unset, .unset]) rfl ?_
              show Steps p.tables e below (s₁.setTop (mkF m 16 #[.val (.int p1), .val (.int p2), .val (.int (3 : Int32)), .val (.int (0 : Int32)), .unset, .unset] [])) _
              refine XS.iloadN X0.here hx rfl (hb hby at_16) rfl ?_
              show Steps p.tables e below (s₁.setTop (mkF m 17 #[.val (.int p1), .val (.int p2), .val (.int (3 : Int32)), .val (.int (0 : Int32)), .unset, .unset] [(.int (3 : Int32))])) _
              refine st200 _ ?_
              show Steps p.tables e below (T200.setTop (mkF m 20 #[.val (.int p1), .val (.int p2), .val (.int (3 : Int32)), .val (.int (0 : Int32)), .unset, .unset] [(.ref w_RECORD)])) _
              refine XS.astore X200.here hx rfl (hb hby at_20) rfl rfl (l' := #[.val (.int p1), .val (.int p2), .val (.int (3 : Int32)), .val (.int (0 : Int32)), .val (.ref w_RECORD), .unset]) rfl ?_
              show Steps p.tables e below (T200.setTop (mkF m 22 #[.val (.int p1), .val (.int p2), .val (.int (3 : Int32)), .val (.int (0 : Int32)), .val (.ref w_RECORD), .unset] [])) _
              refine XS.iloadN X200.here hx rfl (hb hby at_22) rfl ?_
              show Steps p.tables e below (T200.setTop (mkF m 23 #[.val (.int p1), .val (.int p2), .val (.int (3 : Int32)), .val (.int (0 : Int32)), .val (.ref w_RECORD), .unset] [(.int (0 : Int32))])) _
              refine st202 _ ?_
              show Steps p.tables e below (T202.setTop (mkF m 26 #[.val (.int p1), .val (.int p2), .val (.int (3 : Int32)), .val (.int (0 : Int32)), .val (.ref w_RECORD), .unset] [(.ref w_INTENTION)])) _
              refine XS.astore X202.here hx rfl (hb hby at_26) rfl rfl (l' := #[.val (.int p1), .val (.int p2), .val (.int (3 : Int32)), .val (.int (0 : Int32)), .val (.ref w_RECORD), .val (.ref w_INTENTION)]) rfl ?_
              show Steps p.tables e below (T202.setTop (mkF m 28 #[.val (.int p1), .val (.int p2), .val (.int (3 : Int32)), .val (.int (0 : Int32)), .val (.ref w_RECORD), .val (.ref w_INTENTION)] [])) _
              refine XS.aload X202.here hx rfl (hb hby at_28) rfl rfl ?_
              show Steps p.tables e below (T202.setTop (mkF m 30 #[.val (.int p1), .val (.int p2), .val (.int (3 : Int32)), .val (.int (0 : Int32)), .val (.ref w_RECORD), .val (.ref w_INTENTION)] [(.ref w_RECORD)])) _
              refine XS.aload X202.here hx rfl (hb hby at_30) rfl rfl ?_
              show Steps p.tables e below (T202.setTop (mkF m 32 #[.val (.int p1), .val (.int p2), .val (.int (3 : Int32)), .val (.int (0 : Int32)), .val (.ref w_RECORD), .val (.ref w_INTENTION)] [(.ref w_INTENTION), (.ref w_RECORD)])) _
              refine st204.trans ?_
              show Steps p.tables e below (T204.setTop (mkF m 35 #[.val (.int p1), .val (.int p2), .val (.int (3 : Int32)), .val (.int (0 : Int32)), .val (.ref w_RECORD), .val (.ref w_INTENTION)] [(.int (0 : Int32))])) _
              refine XS.iloadN X204.here hx rfl (hb hby at_35) rfl ?_
              show Steps p.tables e below (T204.setTop (mkF m 36 #[.val (.int p1), .val (.int p2), .val (.int (3 : Int32)), .val (.int (0 : Int32)), .val (.ref w_RECORD), .val (.ref w_INTENTION)] [(.int (3 : Int32)), (.int (0 : Int32))])) _
              refine XS.iloadN X204.here hx rfl (hb hby at_36) rfl ?_
              show Steps p.tables e below (T204.setTop (mkF m 37 #[.val (.int p1), .val (.int p2), .val (.int (3 : Int32)), .val (.int (0 : Int32)), .val (.ref w_RECORD), .val (.ref w_INTENTION)] [(.int (0 : Int32)), (.int (3 : Int32)), (.int (0 : Int32))])) _
              refine st206 _ ?_
              show Steps p.tables e below (T206.setTop (mkF m 40 #[.val (.int p1), .val (.int p2), .val (.int (3 : Int32)), .val (.int (0 : Int32)), .val (.ref w_RECORD), .val (.ref w_INTENTION)] [(.int (0 : Int32)), (.int (0 : Int32))])) _
              refine XS.icmpNo X206.here hx rfl (hb hby at_40) rfl (teq (by decide : (0 : Int32) = (0 : Int32))).2 ?_
              show Steps p.tables e below (T206.setTop (mkF m 43 #[.val (.int p1), .val (.int p2), .val (.int (3 : Int32)), .val (.int (0 : Int32)), .val (.ref w_RECORD), .val (.ref w_INTENTION)] [])) _
              refine XS.iconst X206.here hx rfl (hb hby at_43) ?_
              show Steps p.tables e below (T206.setTop (mkF m 44 #[.val (.int p1), .val (.int p2), .val (.int (3 : Int32)), .val (.int (0 : Int32)), .val (.ref w_RECORD), .val (.ref w_INTENTION)] [(.int (1 : Int32))])) _
              refine XS.goto X206.here hx rfl (pc0 := 44) (pc' := 48) rfl (hb hby at_44) (by decide) (by decide) ?_
              show Steps p.tables e below (T206.setTop (mkF m 48 #[.val (.int p1), .val (.int p2), .val (.int (3 : Int32)), .val (.int (0 : Int32)), .val (.ref w_RECORD), .val (.ref w_INTENTION)] [(.int (1 : Int32))])) _
              exact retN X206 hx (t := .boolean) Bd.returns (by simp) (hb hby at_48) hr
            · show own_Q0 Z p1 p2 w_INTENTION w_TABLE w_NEXT_KEY w_RECORD w_IMPLICIT w_GAP w_INSERT_INTENTION h0 n0 _ T206.heap _
              rw [e206]
              exact ⟨(by rw [own_f0, if_neg hc1, if_neg hc9, if_neg hc17, if_pos hc25, if_pos hc26]), N207⟩
          ·
            by_cases hc27 : ((p2 &&& (2147483647 : Int32)) - ((p2 &&& (2147483647 : Int32)) / (7 : Int32)) * (7 : Int32)) = (1 : Int32)
            ·
              have k208 : ∀ t, Steps p.tables e below (s₁.setTop (mkF m 15 #[.val (.int p1), .val (.int p2), .val (.int (3 : Int32)), .unset, .unset, .unset] [(.int (1 : Int32))])) t → Steps p.tables e below (s₁.setTop (entryFrame m #[(.int p1), (.int p2)] maxLocals)) t := by
                intro t kt
                refine k198 t ?_
                rw [hc27]
                exact kt
              obtain ⟨v209, _, ⟨T209, L209, k209, n209⟩, -, X209, ⟨Lc209, hQ209, l209, y209, z209⟩, st209⟩ := Jvm.LawKit.callS X0 hx (y := (⟨"com/example/kerb/kerb/txn/LockKindCoversPinLaw", "pick", "(I)Lcom/example/kerb/kerb/txn/LockKind;"⟩ : MethodName)) hown (mvT hZ (hw _ (List.mem_of_getElem? (i := 1) rfl))) (mvT hZ (hw _ (List.mem_of_getElem? (i := 2) rfl))) (mvT hZ (hw _ (List.mem_of_getElem? (i := 3) rfl))) (mvT hZ (hw _ (List.mem_of_getElem? (i := 4) rfl))) (by decide) (backOf (W := 0) (own_rm1 l Z a0 hw [] (3 : Int32) w_INTENTION w_TABLE w_NEXT_KEY w_RECORD w_IMPLICIT w_GAP w_INSERT_INTENTION h0 n0 Z0 S_INTENTION S_TABLE S_NEXT_KEY S_RECORD S_IMPLICIT S_GAP S_INSERT_INTENTION) hZ (hw _ (List.mem_of_getElem? (i := 4) rfl)) (hw _ (List.mem_of_getElem? (i := 3) rfl)) (by decide) (by decide)) (g := (mkF m 17 #[.val (.int p1), .val (.int p2), .val (.int (3 : Int32)), .val (.int (1 : Int32)), .unset, .unset] [(.int (3 : Int32))])) rfl (by rw [hml]; rfl) (argsL := [(.int (3 : Int32))]) (rest := []) (lenOf own_pd93 rfl) rfl (by show 2 * 0 + _ ≤ _; exact Nat.le_of_eq rfl) (hb hby at_17) (fun _ _ => ⟨rfl, e0, (by decide : 0 + 0 ≤ _), (by decide : 0 + 0 ≤ _)⟩)
              dsimp only [Pt.U, Pt.locs, Pt.cells, Pt.slots] at X209 l209 y209 z209 st209 hQ209
              subst l209 y209 z209
              obtain ⟨hv209, N209q, e209⟩ := hQ209
              have N210 := Fr.app N0 N209q
              rw [show (own_f1 (3 : Int32) w_INTENTION w_TABLE w_NEXT_KEY w_RECORD w_IMPLICIT w_GAP w_INSERT_INTENTION) = w_RECORD from by first | rfl | decide | simp [own_f1]] at hv209
              subst hv209
              obtain ⟨v211, _, ⟨T211, L211, k211, n211⟩, -, X211, ⟨Lc211, hQ211, l211, y211, z211⟩, st211⟩ := Jvm.LawKit.callS X209 hx (y := (⟨"com/example/kerb/kerb/txn/LockKindCoversPinLaw", "pick", "(I)Lcom/example/kerb/kerb/txn/LockKind;"⟩ : MethodName)) hown (mvT hZ (hw _ (List.mem_of_getElem? (i := 1) rfl))) (mvT hZ (hw _ (List.mem_of_getElem? (i := 2) rfl))) (mvT hZ (hw _ (List.mem_of_getElem? (i := 3) rfl))) (mvT hZ (hw _ (List.mem_of_getElem? (i := 4) rfl))) (by decide) (backOf (W := 0) (own_rm1 l Z a0 hw [] (1 : Int32) w_INTENTION w_TABLE w_NEXT_KEY w_RECORD w_IMPLICIT w_GAP w_INSERT_INTENTION h0 n0 Z0 S_INTENTION S_TABLE S_NEXT_KEY S_RECORD S_IMPLICIT S_GAP S_INSERT_INTENTION) hZ (hw _ (List.mem_of_getElem? (i := 4) rfl)) (hw _ (List.mem_of_getElem? (i := 3) rfl)) (by decide) (by decide)) (g := (mkF m 23 #[.val (.int p1), .val (.int p2), .val (.int (3 : Int32)), .val (.int (1 : Int32)), .val (.ref w_RECORD), .unset] [(.int (1 : Int32))])) rfl (by rw [hml]; rfl) (argsL := [(.int (1 : Int32))]) (rest := []) (lenOf own_pd93 rfl) rfl (by show 2 * 0 + _ ≤ _; exact Nat.le_of_eq rfl) (hb hby at_23) (fun _ _ => ⟨rfl, e209, (by decide : 0 + 0 ≤ _), (by decide : 0 + 0 ≤ _)⟩)
              dsimp only [Pt.U, Pt.locs, Pt.cells, Pt.slots] at X211 l211 y211 z211 st211 hQ211
              subst l211 y211 z211
              obtain ⟨hv211, N211q, e211⟩ := hQ211
              have N212 := Fr.app N210 N211q
              rw [show (own_f1 (1 : Int32) w_INTENTION w_TABLE w_NEXT_KEY w_RECORD w_IMPLICIT w_GAP w_INSERT_INTENTION) = w_TABLE from by first | rfl | decide | simp [own_f1]] at hv211
              subst hv211
              obtain ⟨cq213, kq213, q213a, q213b, q213c⟩ := isOf hZ e211 E_w_RECORD
              obtain ⟨v213, _, ⟨T213, L213, k213, n213⟩, -, X213, ⟨Lc213, hQ213, l213, y213, z213⟩, st213⟩ := X211.virtualBack hx (y := (⟨"com/example/kerb/kerb/txn/LockKind", "covers", "(Lcom/example/kerb/kerb/txn/LockKind;)Z"⟩ : MethodName)) (z := (⟨"com/example/kerb/kerb/txn/LockKind", "covers", "(Lcom/example/kerb/kerb/txn/LockKind;)Z"⟩ : MethodName)) hown (mvT hZ (hw _ (List.mem_of_getElem? (i := 10) rfl))) (mvT hZ (hw _ (List.mem_of_getElem? (i := 11) rfl))) (notFace_of_selects (args := #[]) (mvT hZ (hw _ (List.mem_of_getElem? (i := 13) rfl)))) (mvT hZ (hw _ (List.mem_of_getElem? (i := 13) rfl))) (mvT hZ (hw _ (List.mem_of_getElem? (i := 12) rfl))) (by decide) (backOf (W := 0) (own_rm2 l Z a0 hw [] w_RECORD w_TABLE (1 : Int32) w_NEXT_KEY w_GAP w_RECORD w_IMPLICIT h0 n0 Z0 F_coversRecord_w_RECORD S_NEXT_KEY S_GAP S_RECORD S_IMPLICIT) hZ (hw _ (List.mem_of_getElem? (i := 14) rfl)) (hw _ (List.mem_of_getElem? (i := 6) rfl)) (by decide) (by decide)) q213a q213c (g := (mkF m 32 #[.val (.int p1), .val (.int p2), .val (.int (3 : Int32)), .val (.int (1 : Int32)), .val (.ref w_RECORD), .val (.ref w_TABLE)] [(.ref w_TABLE), (.ref w_RECORD)])) rfl (by rw [hml]; rfl) (Steps.refl _) (argsL := [(.ref w_TABLE)]) (rest := []) (lenOf own_pd94 rfl) rfl (by show 2 * 0 + _ ≤ _; exact Nat.le_of_eq rfl) (hb hby at_32) (fun _ _ => ⟨rfl, e211, (by decide : 0 + 0 ≤ _), (by decide : 0 + 0 ≤ _)⟩)
              dsimp only [Pt.U, Pt.locs, Pt.cells, Pt.slots] at X213 l213 y213 z213 st213 hQ213
              subst l213 y213 z213
              obtain ⟨hv213, N213q, e213⟩ := hQ213
              have N214 := Fr.app N212 N213q
              rw [show (own_f2 w_RECORD w_TABLE (1 : Int32) w_NEXT_KEY w_GAP w_RECORD w_IMPLICIT) = (0 : Int32) from by first | rfl | decide | simp [own_f2, ne_NEXT_KEY_RECORD.symm, ne_TABLE_IMPLICIT, ne_TABLE_RECORD, ne_TABLE_RECORD.symm]] at hv213
              subst hv213
              obtain ⟨v215, _, ⟨T215, L215, k215, n215⟩, -, X215, ⟨Lc215, hQ215, l215, y215, z215⟩, st215⟩ := Jvm.LawKit.callS X213 hx (y := (⟨"com/example/kerb/kerb/txn/LockKindCoversPinLaw", "expected", "(II)Z"⟩ : MethodName)) hown (mvT hZ (hw _ (List.mem_of_getElem? (i := 19) rfl))) (mvT hZ (hw _ (List.mem_of_getElem? (i := 20) rfl))) (mvT hZ (hw _ (List.mem_of_getElem? (i := 3) rfl))) (mvT hZ (hw _ (List.mem_of_getElem? (i := 21) rfl))) (by decide) (backOf (W := 1) (own_rm3 l Z a0 hw [] (3 : Int32) (1 : Int32) h0 n0 Z0) hZ (hw _ (List.mem_of_getElem? (i := 21) rfl)) (hw _ (List.mem_of_getElem? (i := 3) rfl)) (by decide) (by decide)) (g := (mkF m 37 #[.val (.int p1), .val (.int p2), .val (.int (3 : Int32)), .val (.int (1 : Int32)), .val (.ref w_RECORD), .val (.ref w_TABLE)] [(.int (1 : Int32)), (.int (3 : Int32)), (.int (0 : Int32))])) rfl (by rw [hml]; rfl) (argsL := [(.int (3 : Int32)), (.int (1 : Int32))]) (rest := [(.int (0 : Int32))]) (lenOf own_pd95 rfl) rfl (by show 2 * 0 + _ ≤ _; exact Nat.le_of_eq rfl) (hb hby at_37) (fun _ _ => ⟨rfl, e213, (by decide : 0 + 0 ≤ _), (by decide : 0 + 0 ≤ _)⟩)
              dsimp only [Pt.U, Pt.locs, Pt.cells, Pt.slots] at X215 l215 y215 z215 st215 hQ215
              subst l215 y215 z215
              obtain ⟨hv215, N215q, e215⟩ := hQ215
              have N216 := Fr.app N214 N215q
              rw [show (own_f3 (3 : Int32) (1 : Int32)) = (0 : Int32) from by first | rfl | decide | simp [own_f3]] at hv215
              subst hv215
              obtain ⟨fs, hr, hrun, hended, hW, hsame⟩ := X215.leave (v := some (.int (1 : Int32))) (fun h => by rw [Bd.returns] at h; cases h)
              refine ⟨_, _, k208 _ ?_, hrun, hended, _, _, rfl, ?_, ⟨_, rfl⟩, hW, hsame.mono (by decide) (by decide)⟩
              · show Steps p.tables e below (s₁.setTop (mkF m 15 #[.val (.int p1), .val (.int p2), .val (.int (3 : Int32)), .unset, .unset, .unset] [(.int (1 : Int32))])) _
                refine XS.istoreN X0.here hx rfl (hb hby at_15) rfl (l' := #[.val (.int p1), .val (.int p2), .val (.int (3 : Int32)), .val (.int (1 : Int32)), .unset, .unset]) rfl ?_
                show Steps p.tables e below (s₁.setTop (mkF m 16 #[.val (.int p1), .val (.int p2), .val (.int (3 : Int32)), .val (.int (1 : Int32)), .unset, .unset] [])) _
                refine XS.iloadN X0.here hx rfl (hb hby at_16) rfl ?_
                show Steps p.tables e below (s₁.setTop (mkF m 17 #[.val (.int p1), .val (.int p2), .val (.int (3 : Int32)), .val (.int (1 : Int32)), .unset, .unset] [(.int (3 : Int32))])) _
                refine st209 _ ?_
                show Steps p.tables e below (T209.setTop (mkF m 20 #[.val (.int p1), .val (.int p2), .val (.int (3 : Int32)), .val (.int (1 : Int32)), .unset, .unset] [(.ref w_RECORD)])) _
                refine XS.astore X209.here hx rfl (hb hby at_20) rfl rfl (l' := #[.val (.int p1), .val (.int p2), .val (.int (3 : Int32)), .val (.int (1 : Int32)), .val (.ref w_RECORD), .unset]) rfl ?_
                show Steps p.tables e below (T209.setTop (mkF m 22 #[.val (.int p1), .val (.int p2), .val (.int (3 : Int32)), .val (.int (1 : Int32)), .val (.ref w_RECORD), .unset] [])) _
                refine XS.iloadN X209.here hx rfl (hb hby at_22) rfl ?_
                show Steps p.tables e below (T209.setTop (mkF m 23 #[.val (.int p1), .val (.int p2), .val (.int (3 : Int32)), .val (.int (1 : Int32)), .val (.ref w_RECORD), .unset] [(.int (1 : Int32))])) _
                refine st211 _ ?_
                show Steps p.tables e below (T211.setTop (mkF m 26 #[.val (.int p1), .val (.int p2), .val (.int (3 : Int32)), .val (.int (1 : Int32)), .val (.ref w_RECORD), .unset] [(.ref w_TABLE)])) _
                refine XS.astore X211.here hx rfl (hb hby at_26) rfl rfl (l' := #[.val (.int p1), .val (.int p2), .val (.int (3 : Int32)), .val (.int (1 : Int32)), .val (.ref w_RECORD), .val (.ref w_TABLE)]) rfl ?_
                show Steps p.tables e below (T211.setTop (mkF m 28 #[.val (.int p1), .val (.int p2), .val (.int (3 : Int32)), .val (.int (1 : Int32)), .val (.ref w_RECORD), .val (.ref w_TABLE)] [])) _
                refine XS.aload X211.here hx rfl (hb hby at_28) rfl rfl ?_
                show Steps p.tables e below (T211.setTop (mkF m 30 #[.val (.int p1), .val (.int p2), .val (.int (3 : Int32)), .val (.int (1 : Int32)), .val (.ref w_RECORD), .val (.ref w_TABLE)] [(.ref w_RECORD)])) _
                refine XS.aload X211.here hx rfl (hb hby at_30) rfl rfl ?_
                show Steps p.tables e below (T211.setTop (mkF m 32 #[.val (.int p1), .val (.int p2), .val (.int (3 : Int32)), .val (.int (1 : Int32)), .val (.ref w_RECORD), .val (.ref w_TABLE)] [(.ref w_TABLE), (.ref w_RECORD)])) _
                refine st213.trans ?_
                show Steps p.tables e below (T213.setTop (mkF m 35 #[.val (.int p1), .val (.int p2), .val (.int (3 : Int32)), .val (.int (1 : Int32)), .val (.ref w_RECORD), .val (.ref w_TABLE)] [(.int (0 : Int32))])) _
                refine XS.iloadN X213.here hx rfl (hb hby at_35) rfl ?_
                show Steps p.tables e below (T213.setTop (mkF m 36 #[.val (.int p1), .val (.int p2), .val (.int (3 : Int32)), .val (.int (1 : Int32)), .val (.ref w_RECORD), .val (.ref w_TABLE)] [(.int (3 : Int32)), (.int (0 : Int32))])) _
                refine XS.iloadN X213.here hx rfl (hb hby at_36) rfl ?_
                show Steps p.tables e below (T213.setTop (mkF m 37 #[.val (.int p1), .val (.int p2), .val (.int (3 : Int32)), .val (.int (1 : Int32)), .val (.ref w_RECORD), .val (.ref w_TABLE)] [(.int (1 : Int32)), (.int (3 : Int32)), (.int (0 : Int32))])) _
                refine st215 _ ?_
                show Steps p.tables e below (T215.setTop (mkF m 40 #[.val (.int p1), .val (.int p2), .val (.int (3 : Int32)), .val (.int (1 : Int32)), .val (.ref w_RECORD), .val (.ref w_TABLE)] [(.int (0 : Int32)), (.int (0 : Int32))])) _
                refine XS.icmpNo X215.here hx rfl (hb hby at_40) rfl (teq (by decide : (0 : Int32) = (0 : Int32))).2 ?_
                show Steps p.tables e below (T215.setTop (mkF m 43 #[.val (.int p1), .val (.int p2), .val (.int (3 : Int32)), .val (.int (1 : Int32)), .val (.ref w_RECORD), .val (.ref w_TABLE)] [])) _
                refine XS.iconst X215.here hx rfl (hb hby at_43) ?_
                show Steps p.tables e below (T215.setTop (mkF m 44 #[.val (.int p1), .val (.int p2), .val (.int (3 : Int32)), .val (.int (1 : Int32)), .val (.ref w_RECORD), .val (.ref w_TABLE)] [(.int (1 : Int32))])) _
                refine XS.goto X215.here hx rfl (pc0 := 44) (pc' := 48) rfl (hb hby at_44) (by decide) (by decide) ?_
                show Steps p.tables e below (T215.setTop (mkF m 48 #[.val (.int p1), .val (.int p2), .val (.int (3 : Int32)), .val (.int (1 : Int32)), .val (.ref w_RECORD), .val (.ref w_TABLE)] [(.int (1 : Int32))])) _
                exact retN X215 hx (t := .boolean) Bd.returns (by simp) (hb hby at_48) hr
              · show own_Q0 Z p1 p2 w_INTENTION w_TABLE w_NEXT_KEY w_RECORD w_IMPLICIT w_GAP w_INSERT_INTENTION h0 n0 _ T215.heap _
                rw [e215]
                exact ⟨(by rw [own_f0, if_neg hc1, if_neg hc9, if_neg hc17, if_pos hc25, if_neg hc26, if_pos hc27]), N216⟩
            ·
              by_cases hc28 : ((p2 &&& (2147483647 : Int32)) - ((p2 &&& (2147483647 : Int32)) / (7 : Int32)) * (7 : Int32)) = (2 : Int32)
              ·
                have k217 : ∀ t, Steps p.tables e below (s₁.setTop (mkF m 15 #[.val (.int p1), .val (.int p2), .val (.int (3 : Int32)), .unset, .unset, .unset] [(.int (2 : Int32))])) t → Steps p.tables e below (s₁.setTop (entryFrame m #[(.int p1), (.int p2)] maxLocals)) t := by
                  intro t kt
                  refine k198 t ?_
                  rw [hc28]
                  exact kt
                obtain ⟨v218, _, ⟨T218, L218, k218, n218⟩, -, X218, ⟨Lc218, hQ218, l218, y218, z218⟩, st218⟩ := Jvm.LawKit.callS X0 hx (y := (⟨"com/example/kerb/kerb/txn/LockKindCoversPinLaw", "pick", "(I)Lcom/example/kerb/kerb/txn/LockKind;"⟩ : MethodName)) hown (mvT hZ (hw _ (List.mem_of_getElem? (i := 1) rfl))) (mvT hZ (hw _ (List.mem_of_getElem? (i := 2) rfl))) (mvT hZ (hw _ (List.mem_of_getElem? (i := 3) rfl))) (mvT hZ (hw _ (List.mem_of_getElem? (i := 4) rfl))) (by decide) (backOf (W := 0) (own_rm1 l Z a0 hw [] (3 : Int32) w_INTENTION w_TABLE w_NEXT_KEY w_RECORD w_IMPLICIT w_GAP w_INSERT_INTENTION h0 n0 Z0 S_INTENTION S_TABLE S_NEXT_KEY S_RECORD S_IMPLICIT S_GAP S_INSERT_INTENTION) hZ (hw _ (List.mem_of_getElem? (i := 4) rfl)) (hw _ (List.mem_of_getElem? (i := 3) rfl)) (by decide) (by decide)) (g := (mkF m 17 #[.val (.int p1), .val (.int p2), .val (.int (3 : Int32)), .val (.int (2 : Int32)), .unset, .unset] [(.int (3 : Int32))])) rfl (by rw [hml]; rfl) (argsL := [(.int (3 : Int32))]) (rest := []) (lenOf own_pd93 rfl) rfl (by show 2 * 0 + _ ≤ _; exact Nat.le_of_eq rfl) (hb hby at_17) (fun _ _ => ⟨rfl, e0, (by decide : 0 + 0 ≤ _), (by decide : 0 + 0 ≤ _)⟩)
                dsimp only [Pt.U, Pt.locs, Pt.cells, Pt.slots] at X218 l218 y218 z218 st218 hQ218
                subst l218 y218 z218
                obtain ⟨hv218, N218q, e218⟩ := hQ218
                have N219 := Fr.app N0 N218q
                rw [show (own_f1 (3 : Int32) w_INTENTION w_TABLE w_NEXT_KEY w_RECORD w_IMPLICIT w_GAP w_INSERT_INTENTION) = w_RECORD from by first | rfl | decide | simp [own_f1]] at hv218
                subst hv218
                obtain ⟨v220, _, ⟨T220, L220, k220, n220⟩, -, X220, ⟨Lc220, hQ220, l220, y220, z220⟩, st220⟩ := Jvm.LawKit.callS X218 hx (y := (⟨"com/example/kerb/kerb/txn/LockKindCoversPinLaw", "pick", "(I)Lcom/example/kerb/kerb/txn/LockKind;"⟩ : MethodName)) hown (mvT hZ (hw _ (List.mem_of_getElem? (i := 1) rfl))) (mvT hZ (hw _ (List.mem_of_getElem? (i := 2) rfl))) (mvT hZ (hw _ (List.mem_of_getElem? (i := 3) rfl))) (mvT hZ (hw _ (List.mem_of_getElem? (i := 4) rfl))) (by decide) (backOf (W := 0) (own_rm1 l Z a0 hw [] (2 : Int32) w_INTENTION w_TABLE w_NEXT_KEY w_RECORD w_IMPLICIT w_GAP w_INSERT_INTENTION h0 n0 Z0 S_INTENTION S_TABLE S_NEXT_KEY S_RECORD S_IMPLICIT S_GAP S_INSERT_INTENTION) hZ (hw _ (List.mem_of_getElem? (i := 4) rfl)) (hw _ (List.mem_of_getElem? (i := 3) rfl)) (by decide) (by decide)) (g := (mkF m 23 #[.val (.int p1), .val (.int p2), .val (.int (3 : Int32)), .val (.int (2 : Int32)), .val (.ref w_RECORD), .unset] [(.int (2 : Int32))])) rfl (by rw [hml]; rfl) (argsL := [(.int (2 : Int32))]) (rest := []) (lenOf own_pd93 rfl) rfl (by show 2 * 0 + _ ≤ _; exact Nat.le_of_eq rfl) (hb hby at_23) (fun _ _ => ⟨rfl, e218, (by decide : 0 + 0 ≤ _), (by decide : 0 + 0 ≤ _)⟩)
                dsimp only [Pt.U, Pt.locs, Pt.cells, Pt.slots] at X220 l220 y220 z220 st220 hQ220
                subst l220 y220 z220
                obtain ⟨hv220, N220q, e220⟩ := hQ220
                have N221 := Fr.app N219 N220q
                rw [show (own_f1 (2 : Int32) w_INTENTION w_TABLE w_NEXT_KEY w_RECORD w_IMPLICIT w_GAP w_INSERT_INTENTION) = w_NEXT_KEY from by first | rfl | decide | simp [own_f1]] at hv220
                subst hv220
                obtain ⟨cq222, kq222, q222a, q222b, q222c⟩ := isOf hZ e220 E_w_RECORD
                obtain ⟨v222, _, ⟨T222, L222, k222, n222⟩, -, X222, ⟨Lc222, hQ222, l222, y222, z222⟩, st222⟩ := X220.virtualBack hx (y := (⟨"com/example/kerb/kerb/txn/LockKind", "covers", "(Lcom/example/kerb/kerb/txn/LockKind;)Z"⟩ : MethodName)) (z := (⟨"com/example/kerb/kerb/txn/LockKind", "covers", "(Lcom/example/kerb/kerb/txn/LockKind;)Z"⟩ : MethodName)) hown (mvT hZ (hw _ (List.mem_of_getElem? (i := 10) rfl))) (mvT hZ (hw _ (List.mem_of_getElem? (i := 11) rfl))) (notFace_of_selects (args := #[]) (mvT hZ (hw _ (List.mem_of_getElem? (i := 13) rfl)))) (mvT hZ (hw _ (List.mem_of_getElem? (i := 13) rfl))) (mvT hZ (hw _ (List.mem_of_getElem? (i := 12) rfl))) (by decide) (backOf (W := 0) (own_rm2 l Z a0 hw [] w_RECORD w_NEXT_KEY (1 : Int32) w_NEXT_KEY w_GAP w_RECORD w_IMPLICIT h0 n0 Z0 F_coversRecord_w_RECORD S_NEXT_KEY S_GAP S_RECORD S_IMPLICIT) hZ (hw _ (List.mem_of_getElem? (i := 14) rfl)) (hw _ (List.mem_of_getElem? (i := 6) rfl)) (by decide) (by decide)) q222a q222c (g := (mkF m 32 #[.val (.int p1), .val (.int p2), .val (.int (3 : Int32)), .val (.int (2 : Int32)), .val (.ref w_RECORD), .val (.ref w_NEXT_KEY)] [(.ref w_NEXT_KEY), (.ref w_RECORD)])) rfl (by rw [hml]; rfl) (Steps.refl _) (argsL := [(.ref w_NEXT_KEY)]) (rest := []) (lenOf own_pd94 rfl) rfl (by show 2 * 0 + _ ≤ _; exact Nat.le_of_eq rfl) (hb hby at_32) (fun _ _ => ⟨rfl, e220, (by decide : 0 + 0 ≤ _), (by decide : 0 + 0 ≤ _)⟩)
                dsimp only [Pt.U, Pt.locs, Pt.cells, Pt.slots] at X222 l222 y222 z222 st222 hQ222
                subst l222 y222 z222
                obtain ⟨hv222, N222q, e222⟩ := hQ222
                have N223 := Fr.app N221 N222q
                rw [show (own_f2 w_RECORD w_NEXT_KEY (1 : Int32) w_NEXT_KEY w_GAP w_RECORD w_IMPLICIT) = (0 : Int32) from by first | rfl | decide | simp [own_f2, ne_NEXT_KEY_IMPLICIT, ne_NEXT_KEY_RECORD, ne_NEXT_KEY_RECORD.symm]] at hv222
                subst hv222
                obtain ⟨v224, _, ⟨T224, L224, k224, n224⟩, -, X224, ⟨Lc224, hQ224, l224, y224, z224⟩, st224⟩ := Jvm.LawKit.callS X222 hx (y := (⟨"com/example/kerb/kerb/txn/LockKindCoversPinLaw", "expected", "(II)Z"⟩ : MethodName)) hown (mvT hZ (hw _ (List.mem_of_getElem? (i := 19) rfl))) (mvT hZ (hw _ (List.mem_of_getElem? (i := 20) rfl))) (mvT hZ (hw _ (List.mem_of_getElem? (i := 3) rfl))) (mvT hZ (hw _ (List.mem_of_getElem? (i := 21) rfl))) (by decide) (backOf (W := 1) (own_rm3 l Z a0 hw [] (3 : Int32) (2 : Int32) h0 n0 Z0) hZ (hw _ (List.mem_of_getElem? (i := 21) rfl)) (hw _ (List.mem_of_getElem? (i := 3) rfl)) (by decide) (by decide)) (g := (mkF m 37 #[.val (.int p1), .val (.int p2), .val (.int (3 : Int32)), .val (.int (2 : Int32)), .val (.ref w_RECORD), .val (.ref w_NEXT_KEY)] [(.int (2 : Int32)), (.int (3 : Int32)), (.int (0 : Int32))])) rfl (by rw [hml]; rfl) (argsL := [(.int (3 : Int32)), (.int (2 : Int32))]) (rest := [(.int (0 : Int32))]) (lenOf own_pd95 rfl) rfl (by show 2 * 0 + _ ≤ _; exact Nat.le_of_eq rfl) (hb hby at_37) (fun _ _ => ⟨rfl, e222, (by decide : 0 + 0 ≤ _), (by decide : 0 + 0 ≤ _)⟩)
                dsimp only [Pt.U, Pt.locs, Pt.cells, Pt.slots] at X224 l224 y224 z224 st224 hQ224
                subst l224 y224 z224
                obtain ⟨hv224, N224q, e224⟩ := hQ224
                have N225 := Fr.app N223 N224q
                rw [show (own_f3 (3 : Int32) (2 : Int32)) = (0 : Int32) from by first | rfl | decide | simp [own_f3]] at hv224
                subst hv224
                obtain ⟨fs, hr, hrun, hended, hW, hsame⟩ := X224.leave (v := some (.int (1 : Int32))) (fun h => by rw [Bd.returns] at h; cases h)
                refine ⟨_, _, k217 _ ?_, hrun, hended, _, _, rfl, ?_, ⟨_, rfl⟩, hW, hsame.mono (by decide) (by decide)⟩
                · show Steps p.tables e below (s₁.setTop (mkF m 15 #[.val (.int p1), .val (.int p2), .val (.int (3 : Int32)), .unset, .unset, .unset] [(.int (2 : Int32))])) _
                  refine XS.istoreN X0.here hx rfl (hb hby at_15) rfl (l' := #[.val (.int p1), .val (.int p2), .val (.int (3 : Int32)), .val (.int (2 : Int32)), .unset, .unset]) rfl ?_
                  show Steps p.tables e below (s₁.setTop (mkF m 16 #[.val (.int p1), .val (.int p2), .val (.int (3 : Int32)), .val (.int (2 : Int32)), .unset, .unset] [])) _
                  refine XS.iloadN X0.here hx rfl (hb hby at_16) rfl ?_
                  show Steps p.tables e below (s₁.setTop (mkF m 17 #[.val (.int p1), .val (.int p2), .val (.int (3 : Int32)), .val (.int (2 : Int32)), .unset, .unset] [(.int (3 : Int32))])) _
                  refine st218 _ ?_
                  show Steps p.tables e below (T218.setTop (mkF m 20 #[.val (.int p1), .val (.int p2), .val (.int (3 : Int32)), .val (.int (2 : Int32)), .unset, .unset] [(.ref w_RECORD)])) _
                  refine XS.astore X218.here hx rfl (hb hby at_20) rfl rfl (l' := #[.val (.int p1), .val (.int p2), .val (.int (3 : Int32)), .val (.int (2 : Int32)), .val (.ref w_RECORD), .unset]) rfl ?_
                  show Steps p.tables e below (T218.setTop (mkF m 22 #[.val (.int p1), .val (.int p2), .val (.int (3 : Int32)), .val (.int (2 : Int32)), .val (.ref w_RECORD), .unset] [])) _
                  refine XS.iloadN X218.here hx rfl (hb hby at_22) rfl ?_
                  show Steps p.tables e below (T218.setTop (mkF m 23 #[.val (.int p1), .val (.int p2), .val (.int (3 : Int32)), .val (.int (2 : Int32)), .val (.ref w_RECORD), .unset] [(.int (2 : Int32))])) _
                  refine st220 _ ?_
                  show Steps p.tables e below (T220.setTop (mkF m 26 #[.val (.int p1), .val (.int p2), .val (.int (3 : Int32)), .val (.int (2 : Int32)), .val (.ref w_RECORD), .unset] [(.ref w_NEXT_KEY)])) _
                  refine XS.astore X220.here hx rfl (hb hby at_26) rfl rfl (l' := #[.val (.int p1), .val (.int p2), .val (.int (3 : Int32)), .val (.int (2 : Int32)), .val (.ref w_RECORD), .val (.ref w_NEXT_KEY)]) rfl ?_
                  show Steps p.tables e below (T220.setTop (mkF m 28 #[.val (.int p1), .val (.int p2), .val (.int (3 : Int32)), .val (.int (2 : Int32)), .val (.ref w_RECORD), .val (.ref w_NEXT_KEY)] [])) _
                  refine XS.aload X220.here hx rfl (hb hby at_28) rfl rfl ?_
                  show Steps p.tables e below (T220.setTop (mkF m 30 #[.val (.int p1), .val (.int p2), .val (.int (3 : Int32)), .val (.int (2 : Int32)), .val (.ref w_RECORD), .val (.ref w_NEXT_KEY)] [(.ref w_RECORD)])) _
                  refine XS.aload X220.here hx rfl (hb hby at_30) rfl rfl ?_
                  show Steps p.tables e below (T220.setTop (mkF m 32 #[.val (.int p1), .val (.int p2), .val (.int (3 : Int32)), .val (.int (2 : Int32)), .val (.ref w_RECORD), .val (.ref w_NEXT_KEY)] [(.ref w_NEXT_KEY), (.ref w_RECORD)])) _
                  refine st222.trans ?_
                  show Steps p.tables e below (T222.setTop (mkF m 35 #[.val (.int p1), .val (.int p2), .val (.int (3 : Int32)), .val (.int (2 : Int32)), .val (.ref w_RECORD), .val (.ref w_NEXT_KEY)] [(.int (0 : Int32))])) _
                  refine XS.iloadN X222.here hx rfl (hb hby at_35) rfl ?_
                  show Steps p.tables e below (T222.setTop (mkF m 36 #[.val (.int p1), .val (.int p2), .val (.int (3 : Int32)), .val (.int (2 : Int32)), .val (.ref w_RECORD), .val (.ref w_NEXT_KEY)] [(.int (3 : Int32)), (.int (0 : Int32))])) _
                  refine XS.iloadN X222.here hx rfl (hb hby at_36) rfl ?_
                  show Steps p.tables e below (T222.setTop (mkF m 37 #[.val (.int p1), .val (.int p2), .val (.int (3 : Int32)), .val (.int (2 : Int32)), .val (.ref w_RECORD), .val (.ref w_NEXT_KEY)] [(.int (2 : Int32)), (.int (3 : Int32)), (.int (0 : Int32))])) _
                  refine st224 _ ?_
                  show Steps p.tables e below (T224.setTop (mkF m 40 #[.val (.int p1), .val (.int p2), .val (.int (3 : Int32)), .val (.int (2 : Int32)), .val (.ref w_RECORD), .val (.ref w_NEXT_KEY)] [(.int (0 : Int32)), (.int (0 : Int32))])) _
                  refine XS.icmpNo X224.here hx rfl (hb hby at_40) rfl (teq (by decide : (0 : Int32) = (0 : Int32))).2 ?_
                  show Steps p.tables e below (T224.setTop (mkF m 43 #[.val (.int p1), .val (.int p2), .val (.int (3 : Int32)), .val (.int (2 : Int32)), .val (.ref w_RECORD), .val (.ref w_NEXT_KEY)] [])) _
                  refine XS.iconst X224.here hx rfl (hb hby at_43) ?_
                  show Steps p.tables e below (T224.setTop (mkF m 44 #[.val (.int p1), .val (.int p2), .val (.int (3 : Int32)), .val (.int (2 : Int32)), .val (.ref w_RECORD), .val (.ref w_NEXT_KEY)] [(.int (1 : Int32))])) _
                  refine XS.goto X224.here hx rfl (pc0 := 44) (pc' := 48) rfl (hb hby at_44) (by decide) (by decide) ?_
                  show Steps p.tables e below (T224.setTop (mkF m 48 #[.val (.int p1), .val (.int p2), .val (.int (3 : Int32)), .val (.int (2 : Int32)), .val (.ref w_RECORD), .val (.ref w_NEXT_KEY)] [(.int (1 : Int32))])) _
                  exact retN X224 hx (t := .boolean) Bd.returns (by simp) (hb hby at_48) hr
                · show own_Q0 Z p1 p2 w_INTENTION w_TABLE w_NEXT_KEY w_RECORD w_IMPLICIT w_GAP w_INSERT_INTENTION h0 n0 _ T224.heap _
                  rw [e224]
                  exact ⟨(by rw [own_f0, if_neg hc1, if_neg hc9, if_neg hc17, if_pos hc25, if_neg hc26, if_neg hc27, if_pos hc28]), N225⟩
              ·
                by_cases hc29 : ((p2 &&& (2147483647 : Int32)) - ((p2 &&& (2147483647 : Int32)) / (7 : Int32)) * (7 : Int32)) = (3 : Int32)
                ·
                  have k226 : ∀ t, Steps p.tables e below (s₁.setTop (mkF m 15 #[.val (.int p1), .val (.int p2), .val (.int (3 : Int32)), .unset, .unset, .unset] [(.int (3 : Int32))])) t → Steps p.tables e below (s₁.setTop (entryFrame m #[(.int p1), (.int p2)] maxLocals)) t := by
                    intro t kt
                    refine k198 t ?_
                    rw [hc29]
                    exact kt
                  obtain ⟨v227, _, ⟨T227, L227, k227, n227⟩, -, X227, ⟨Lc227, hQ227, l227, y227, z227⟩, st227⟩ := Jvm.LawKit.callS X0 hx (y := (⟨"com/example/kerb/kerb/txn/LockKindCoversPinLaw", "pick", "(I)Lcom/example/kerb/kerb/txn/LockKind;"⟩ : MethodName)) hown (mvT hZ (hw _ (List.mem_of_getElem? (i := 1) rfl))) (mvT hZ (hw _ (List.mem_of_getElem? (i := 2) rfl))) (mvT hZ (hw _ (List.mem_of_getElem? (i := 3) rfl))) (mvT hZ (hw _ (List.mem_of_getElem? (i := 4) rfl))) (by decide) (backOf (W := 0) (own_rm1 l Z a0 hw [] (3 : Int32) w_INTENTION w_TABLE w_NEXT_KEY w_RECORD w_IMPLICIT w_GAP w_INSERT_INTENTION h0 n0 Z0 S_INTENTION S_TABLE S_NEXT_KEY S_RECORD S_IMPLICIT S_GAP S_INSERT_INTENTION) hZ (hw _ (List.mem_of_getElem? (i := 4) rfl)) (hw _ (List.mem_of_getElem? (i := 3) rfl)) (by decide) (by decide)) (g := (mkF m 17 #[.val (.int p1), .val (.int p2), .val (.int (3 : Int32)), .val (.int (3 : Int32)), .unset, .unset] [(.int (3 : Int32))])) rfl (by rw [hml]; rfl) (argsL := [(.int (3 : Int32))]) (rest := []) (lenOf own_pd93 rfl) rfl (by show 2 * 0 + _ ≤ _; exact Nat.le_of_eq rfl) (hb hby at_17) (fun _ _ => ⟨rfl, e0, (by decide : 0 + 0 ≤ _), (by decide : 0 + 0 ≤ _)⟩)
                  dsimp only [Pt.U, Pt.locs, Pt.cells, Pt.slots] at X227 l227 y227 z227 st227 hQ227
                  subst l227 y227 z227
                  obtain ⟨hv227, N227q, e227⟩ := hQ227
                  have N228 := Fr.app N0 N227q
                  rw [show (own_f1 (3 : Int32) w_INTENTION w_TABLE w_NEXT_KEY w_RECORD w_IMPLICIT w_GAP w_INSERT_INTENTION) = w_RECORD from by first | rfl | decide | simp [own_f1]] at hv227
                  subst hv227
                  obtain ⟨v229, _, ⟨T229, L229, k229, n229⟩, -, X229, ⟨Lc229, hQ229, l229, y229, z229⟩, st229⟩ := Jvm.LawKit.callS X227 hx (y := (⟨"com/example/kerb/kerb/txn/LockKindCoversPinLaw", "pick", "(I)Lcom/example/kerb/kerb/txn/LockKind;"⟩ : MethodName)) hown (mvT hZ (hw _ (List.mem_of_getElem? (i := 1) rfl))) (mvT hZ (hw _ (List.mem_of_getElem? (i := 2) rfl))) (mvT hZ (hw _ (List.mem_of_getElem? (i := 3) rfl))) (mvT hZ (hw _ (List.mem_of_getElem? (i := 4) rfl))) (by decide) (backOf (W := 0) (own_rm1 l Z a0 hw [] (3 : Int32) w_INTENTION w_TABLE w_NEXT_KEY w_RECORD w_IMPLICIT w_GAP w_INSERT_INTENTION h0 n0 Z0 S_INTENTION S_TABLE S_NEXT_KEY S_RECORD S_IMPLICIT S_GAP S_INSERT_INTENTION) hZ (hw _ (List.mem_of_getElem? (i := 4) rfl)) (hw _ (List.mem_of_getElem? (i := 3) rfl)) (by decide) (by decide)) (g := (mkF m 23 #[.val (.int p1), .val (.int p2), .val (.int (3 : Int32)), .val (.int (3 : Int32)), .val (.ref w_RECORD), .unset] [(.int (3 : Int32))])) rfl (by rw [hml]; rfl) (argsL := [(.int (3 : Int32))]) (rest := []) (lenOf own_pd93 rfl) rfl (by show 2 * 0 + _ ≤ _; exact Nat.le_of_eq rfl) (hb hby at_23) (fun _ _ => ⟨rfl, e227, (by decide : 0 + 0 ≤ _), (by decide : 0 + 0 ≤ _)⟩)
                  dsimp only [Pt.U, Pt.locs, Pt.cells, Pt.slots] at X229 l229 y229 z229 st229 hQ229
                  subst l229 y229 z229
                  obtain ⟨hv229, N229q, e229⟩ := hQ229
                  have N230 := Fr.app N228 N229q
                  rw [show (own_f1 (3 : Int32) w_INTENTION w_TABLE w_NEXT_KEY w_RECORD w_IMPLICIT w_GAP w_INSERT_INTENTION) = w_RECORD from by first | rfl | decide | simp [own_f1]] at hv229
                  subst hv229
                  obtain ⟨cq231, kq231, q231a, q231b, q231c⟩ := isOf hZ e229 E_w_RECORD
                  obtain ⟨v231, _, ⟨T231, L231, k231, n231⟩, -, X231, ⟨Lc231, hQ231, l231, y231, z231⟩, st231⟩ := X229.virtualBack hx (y := (⟨"com/example/kerb/kerb/txn/LockKind", "covers", "(Lcom/example/kerb/kerb/txn/LockKind;)Z"⟩ : MethodName)) (z := (⟨"com/example/kerb/kerb/txn/LockKind", "covers", "(Lcom/example/kerb/kerb/txn/LockKind;)Z"⟩ : MethodName)) hown (mvT hZ (hw _ (List.mem_of_getElem? (i := 10) rfl))) (mvT hZ (hw _ (List.mem_of_getElem? (i := 11) rfl))) (notFace_of_selects (args := #[]) (mvT hZ (hw _ (List.mem_of_getElem? (i := 13) rfl)))) (mvT hZ (hw _ (List.mem_of_getElem? (i := 13) rfl))) (mvT hZ (hw _ (List.mem_of_getElem? (i := 12) rfl))) (by decide) (backOf (W := 0) (own_rm2 l Z a0 hw [] w_RECORD w_RECORD (1 : Int32) w_NEXT_KEY w_GAP w_RECORD w_IMPLICIT h0 n0 Z0 F_coversRecord_w_RECORD S_NEXT_KEY S_GAP S_RECORD S_IMPLICIT) hZ (hw _ (List.mem_of_getElem? (i := 14) rfl)) (hw _ (List.mem_of_getElem? (i := 6) rfl)) (by decide) (by decide)) q231a q231c (g := (mkF m 32 #[.val (.int p1), .val (.int p2), .val (.int (3 : Int32)), .val (.int (3 : Int32)), .val (.ref w_RECORD), .val (.ref w_RECORD)] [(.ref w_RECORD), (.ref w_RECORD)])) rfl (by rw [hml]; rfl) (Steps.refl _) (argsL := [(.ref w_RECORD)]) (rest := []) (lenOf own_pd94 rfl) rfl (by show 2 * 0 + _ ≤ _; exact Nat.le_of_eq rfl) (hb hby at_32) (fun _ _ => ⟨rfl, e229, (by decide : 0 + 0 ≤ _), (by decide : 0 + 0 ≤ _)⟩)
                  dsimp only [Pt.U, Pt.locs, Pt.cells, Pt.slots] at X231 l231 y231 z231 st231 hQ231
                  subst l231 y231 z231
                  obtain ⟨hv231, N231q, e231⟩ := hQ231
                  have N232 := Fr.app N230 N231q
                  rw [show (own_f2 w_RECORD w_RECORD (1 : Int32) w_NEXT_KEY w_GAP w_RECORD w_IMPLICIT) = (1 : Int32) from by first | rfl | decide | simp [own_f2]] at hv231
                  subst hv231
                  obtain ⟨v233, _, ⟨T233, L233, k233, n233⟩, -, X233, ⟨Lc233, hQ233, l233, y233, z233⟩, st233⟩ := Jvm.LawKit.callS X231 hx (y := (⟨"com/example/kerb/kerb/txn/LockKindCoversPinLaw", "expected", "(II)Z"⟩ : MethodName)) hown (mvT hZ (hw _ (List.mem_of_getElem? (i := 19) rfl))) (mvT hZ (hw _ (List.mem_of_getElem? (i := 20) rfl))) (mvT hZ (hw _ (List.mem_of_getElem? (i := 3) rfl))) (mvT hZ (hw _ (List.mem_of_getElem? (i := 21) rfl))) (by decide) (backOf (W := 1) (own_rm3 l Z a0 hw [] (3 : Int32) (3 : Int32) h0 n0 Z0) hZ (hw _ (List.mem_of_getElem? (i := 21) rfl)) (hw _ (List.mem_of_getElem? (i := 3) rfl)) (by decide) (by decide)) (g := (mkF m 37 #[.val (.int p1), .val (.int p2), .val (.int (3 : Int32)), .val (.int (3 : Int32)), .val (.ref w_RECORD), .val (.ref w_RECORD)] [(.int (3 : Int32)), (.int (3 : Int32)), (.int (1 : Int32))])) rfl (by rw [hml]; rfl) (argsL := [(.int (3 : Int32)), (.int (3 : Int32))]) (rest := [(.int (1 : Int32))]) (lenOf own_pd95 rfl) rfl (by show 2 * 0 + _ ≤ _; exact Nat.le_of_eq rfl) (hb hby at_37) (fun _ _ => ⟨rfl, e231, (by decide : 0 + 0 ≤ _), (by decide : 0 + 0 ≤ _)⟩)
                  dsimp only [Pt.U, Pt.locs, Pt.cells, Pt.slots] at X233 l233 y233 z233 st233 hQ233
                  subst l233 y233 z233
                  obtain ⟨hv233, N233q, e233⟩ := hQ233
                  have N234 := Fr.app N232 N233q
                  rw [show (own_f3 (3 : Int32) (3 : Int32)) = (1 : Int32) from by first | rfl | decide | simp [own_f3]] at hv233
                  subst hv233
                  obtain ⟨fs, hr, hrun, hended, hW, hsame⟩ := X233.leave (v := some (.int (1 : Int32))) (fun h => by rw [Bd.returns] at h; cases h)
                  refine ⟨_, _, k226 _ ?_, hrun, hended, _, _, rfl, ?_, ⟨_, rfl⟩, hW, hsame.mono (by decide) (by decide)⟩
                  · show Steps p.tables e below (s₁.setTop (mkF m 15 #[.val (.int p1), .val (.int p2), .val (.int (3 : Int32)), .unset, .unset, .unset] [(.int (3 : Int32))])) _
                    refine XS.istoreN X0.here hx rfl (hb hby at_15) rfl (l' := #[.val (.int p1), .val (.int p2), .val (.int (3 : Int32)), .val (.int (3 : Int32)), .unset, .unset]) rfl ?_
                    show Steps p.tables e below (s₁.setTop (mkF m 16 #[.val (.int p1), .val (.int p2), .val (.int (3 : Int32)), .val (.int (3 : Int32)), .unset, .unset] [])) _
                    refine XS.iloadN X0.here hx rfl (hb hby at_16) rfl ?_
                    show Steps p.tables e below (s₁.setTop (mkF m 17 #[.val (.int p1), .val (.int p2), .val (.int (3 : Int32)), .val (.int (3 : Int32)), .unset, .unset] [(.int (3 : Int32))])) _
                    refine st227 _ ?_
                    show Steps p.tables e below (T227.setTop (mkF m 20 #[.val (.int p1), .val (.int p2), .val (.int (3 : Int32)), .val (.int (3 : Int32)), .unset, .unset] [(.ref w_RECORD)])) _
                    refine XS.astore X227.here hx rfl (hb hby at_20) rfl rfl (l' := #[.val (.int p1), .val (.int p2), .val (.int (3 : Int32)), .val (.int (3 : Int32)), .val (.ref w_RECORD), .unset]) rfl ?_
                    show Steps p.tables e below (T227.setTop (mkF m 22 #[.val (.int p1), .val (.int p2), .val (.int (3 : Int32)), .val (.int (3 : Int32)), .val (.ref w_RECORD), .unset] [])) _
                    refine XS.iloadN X227.here hx rfl (hb hby at_22) rfl ?_
                    show Steps p.tables e below (T227.setTop (mkF m 23 #[.val (.int p1), .val (.int p2), .val (.int (3 : Int32)), .val (.int (3 : Int32)), .val (.ref w_RECORD), .unset] [(.int (3 : Int32))])) _
                    refine st229 _ ?_
                    show Steps p.tables e below (T229.setTop (mkF m 26 #[.val (.int p1), .val (.int p2), .val (.int (3 : Int32)), .val (.int (3 : Int32)), .val (.ref w_RECORD), .unset] [(.ref w_RECORD)])) _
                    refine XS.astore X229.here hx rfl (hb hby at_26) rfl rfl (l' := #[.val (.int p1), .val (.int p2), .val (.int (3 : Int32)), .val (.int (3 : Int32)), .val (.ref w_RECORD), .val (.ref w_RECORD)]) rfl ?_
                    show Steps p.tables e below (T229.setTop (mkF m 28 #[.val (.int p1), .val (.int p2), .val (.int (3 : Int32)), .val (.int (3 : Int32)), .val (.ref w_RECORD), .val (.ref w_RECORD)] [])) _
                    refine XS.aload X229.here hx rfl (hb hby at_28) rfl rfl ?_
                    show Steps p.tables e below (T229.setTop (mkF m 30 #[.val (.int p1), .val (.int p2), .val (.int (3 : Int32)), .val (.int (3 : Int32)), .val (.ref w_RECORD), .val (.ref w_RECORD)] [(.ref w_RECORD)])) _
                    refine XS.aload X229.here hx rfl (hb hby at_30) rfl rfl ?_
                    show Steps p.tables e below (T229.setTop (mkF m 32 #[.val (.int p1), .val (.int p2), .val (.int (3 : Int32)), .val (.int (3 : Int32)), .val (.ref w_RECORD), .val (.ref w_RECORD)] [(.ref w_RECORD), (.ref w_RECORD)])) _
                    refine st231.trans ?_
                    show Steps p.tables e below (T231.setTop (mkF m 35 #[.val (.int p1), .val (.int p2), .val (.int (3 : Int32)), .val (.int (3 : Int32)), .val (.ref w_RECORD), .val (.ref w_RECORD)] [(.int (1 : Int32))])) _
                    refine XS.iloadN X231.here hx rfl (hb hby at_35) rfl ?_
                    show Steps p.tables e below (T231.setTop (mkF m 36 #[.val (.int p1), .val (.int p2), .val (.int (3 : Int32)), .val (.int (3 : Int32)), .val (.ref w_RECORD), .val (.ref w_RECORD)] [(.int (3 : Int32)), (.int (1 : Int32))])) _
                    refine XS.iloadN X231.here hx rfl (hb hby at_36) rfl ?_
                    show Steps p.tables e below (T231.setTop (mkF m 37 #[.val (.int p1), .val (.int p2), .val (.int (3 : Int32)), .val (.int (3 : Int32)), .val (.ref w_RECORD), .val (.ref w_RECORD)] [(.int (3 : Int32)), (.int (3 : Int32)), (.int (1 : Int32))])) _
                    refine st233 _ ?_
                    show Steps p.tables e below (T233.setTop (mkF m 40 #[.val (.int p1), .val (.int p2), .val (.int (3 : Int32)), .val (.int (3 : Int32)), .val (.ref w_RECORD), .val (.ref w_RECORD)] [(.int (1 : Int32)), (.int (1 : Int32))])) _
                    refine XS.icmpNo X233.here hx rfl (hb hby at_40) rfl (teq (by decide : (1 : Int32) = (1 : Int32))).2 ?_
                    show Steps p.tables e below (T233.setTop (mkF m 43 #[.val (.int p1), .val (.int p2), .val (.int (3 : Int32)), .val (.int (3 : Int32)), .val (.ref w_RECORD), .val (.ref w_RECORD)] [])) _
                    refine XS.iconst X233.here hx rfl (hb hby at_43) ?_
                    show Steps p.tables e below (T233.setTop (mkF m 44 #[.val (.int p1), .val (.int p2), .val (.int (3 : Int32)), .val (.int (3 : Int32)), .val (.ref w_RECORD), .val (.ref w_RECORD)] [(.int (1 : Int32))])) _
                    refine XS.goto X233.here hx rfl (pc0 := 44) (pc' := 48) rfl (hb hby at_44) (by decide) (by decide) ?_
                    show Steps p.tables e below (T233.setTop (mkF m 48 #[.val (.int p1), .val (.int p2), .val (.int (3 : Int32)), .val (.int (3 : Int32)), .val (.ref w_RECORD), .val (.ref w_RECORD)] [(.int (1 : Int32))])) _
                    exact retN X233 hx (t := .boolean) Bd.returns (by simp) (hb hby at_48) hr
                  · show own_Q0 Z p1 p2 w_INTENTION w_TABLE w_NEXT_KEY w_RECORD w_IMPLICIT w_GAP w_INSERT_INTENTION h0 n0 _ T233.heap _
                    rw [e233]
                    exact ⟨(by rw [own_f0, if_neg hc1, if_neg hc9, if_neg hc17, if_pos hc25, if_neg hc26, if_neg hc27, if_neg hc28, if_pos hc29]), N234⟩
                ·
                  by_cases hc30 : ((p2 &&& (2147483647 : Int32)) - ((p2 &&& (2147483647 : Int32)) / (7 : Int32)) * (7 : Int32)) = (4 : Int32)
                  ·
                    have k235 : ∀ t, Steps p.tables e below (s₁.setTop (mkF m 15 #[.val (.int p1), .val (.int p2), .val (.int (3 : Int32)), .unset, .unset, .unset] [(.int (4 : Int32))])) t → Steps p.tables e below (s₁.setTop (entryFrame m #[(.int p1), (.int p2)] maxLocals)) t := by
                      intro t kt
                      refine k198 t ?_
                      rw [hc30]
                      exact kt
                    obtain ⟨v236, _, ⟨T236, L236, k236, n236⟩, -, X236, ⟨Lc236, hQ236, l236, y236, z236⟩, st236⟩ := Jvm.LawKit.callS X0 hx (y := (⟨"com/example/kerb/kerb/txn/LockKindCoversPinLaw", "pick", "(I)Lcom/example/kerb/kerb/txn/LockKind;"⟩ : MethodName)) hown (mvT hZ (hw _ (List.mem_of_getElem? (i := 1) rfl))) (mvT hZ (hw _ (List.mem_of_getElem? (i := 2) rfl))) (mvT hZ (hw _ (List.mem_of_getElem? (i := 3) rfl))) (mvT hZ (hw _ (List.mem_of_getElem? (i := 4) rfl))) (by decide) (backOf (W := 0) (own_rm1 l Z a0 hw [] (3 : Int32) w_INTENTION w_TABLE w_NEXT_KEY w_RECORD w_IMPLICIT w_GAP w_INSERT_INTENTION h0 n0 Z0 S_INTENTION S_TABLE S_NEXT_KEY S_RECORD S_IMPLICIT S_GAP S_INSERT_INTENTION) hZ (hw _ (List.mem_of_getElem? (i := 4) rfl)) (hw _ (List.mem_of_getElem? (i := 3) rfl)) (by decide) (by decide)) (g := (mkF m 17 #[.val (.int p1), .val (.int p2), .val (.int (3 : Int32)), .val (.int (4 : Int32)), .unset, .unset] [(.int (3 : Int32))])) rfl (by rw [hml]; rfl) (argsL := [(.int (3 : Int32))]) (rest := []) (lenOf own_pd93 rfl) rfl (by show 2 * 0 + _ ≤ _; exact Nat.le_of_eq rfl) (hb hby at_17) (fun _ _ => ⟨rfl, e0, (by decide : 0 + 0 ≤ _), (by decide : 0 + 0 ≤ _)⟩)
                    dsimp only [Pt.U, Pt.locs, Pt.cells, Pt.slots] at X236 l236 y236 z236 st236 hQ236
                    subst l236 y236 z236
                    obtain ⟨hv236, N236q, e236⟩ := hQ236
                    have N237 := Fr.app N0 N236q
                    rw [show (own_f1 (3 : Int32) w_INTENTION w_TABLE w_NEXT_KEY w_RECORD w_IMPLICIT w_GAP w_INSERT_INTENTION) = w_RECORD from by first | rfl | decide | simp [own_f1]] at hv236
                    subst hv236
                    obtain ⟨v238, _, ⟨T238, L238, k238, n238⟩, -, X238, ⟨Lc238, hQ238, l238, y238, z238⟩, st238⟩ := Jvm.LawKit.callS X236 hx (y := (⟨"com/example/kerb/kerb/txn/LockKindCoversPinLaw", "pick", "(I)Lcom/example/kerb/kerb/txn/LockKind;"⟩ : MethodName)) hown (mvT hZ (hw _ (List.mem_of_getElem? (i := 1) rfl))) (mvT hZ (hw _ (List.mem_of_getElem? (i := 2) rfl))) (mvT hZ (hw _ (List.mem_of_getElem? (i := 3) rfl))) (mvT hZ (hw _ (List.mem_of_getElem? (i := 4) rfl))) (by decide) (backOf (W := 0) (own_rm1 l Z a0 hw [] (4 : Int32) w_INTENTION w_TABLE w_NEXT_KEY w_RECORD w_IMPLICIT w_GAP w_INSERT_INTENTION h0 n0 Z0 S_INTENTION S_TABLE S_NEXT_KEY S_RECORD S_IMPLICIT S_GAP S_INSERT_INTENTION) hZ (hw _ (List.mem_of_getElem? (i := 4) rfl)) (hw _ (List.mem_of_getElem? (i := 3) rfl)) (by decide) (by decide)) (g := (mkF m 23 #[.val (.int p1), .val (.int p2), .val (.int (3 : Int32)), .val (.int (4 : Int32)), .val (.ref w_RECORD), .unset] [(.int (4 : Int32))])) rfl (by rw [hml]; rfl) (argsL := [(.int (4 : Int32))]) (rest := []) (lenOf own_pd93 rfl) rfl (by show 2 * 0 + _ ≤ _; exact Nat.le_of_eq rfl) (hb hby at_23) (fun _ _ => ⟨rfl, e236, (by decide : 0 + 0 ≤ _), (by decide : 0 + 0 ≤ _)⟩)
                    dsimp only [Pt.U, Pt.locs, Pt.cells, Pt.slots] at X238 l238 y238 z238 st238 hQ238
                    subst l238 y238 z238
                    obtain ⟨hv238, N238q, e238⟩ := hQ238
                    have N239 := Fr.app N237 N238q
                    rw [show (own_f1 (4 : Int32) w_INTENTION w_TABLE w_NEXT_KEY w_RECORD w_IMPLICIT w_GAP w_INSERT_INTENTION) = w_IMPLICIT from by first | rfl | decide | simp [own_f1]] at hv238
                    subst hv238
                    obtain ⟨cq240, kq240, q240a, q240b, q240c⟩ := isOf hZ e238 E_w_RECORD
                    obtain ⟨v240, _, ⟨T240, L240, k240, n240⟩, -, X240, ⟨Lc240, hQ240, l240, y240, z240⟩, st240⟩ := X238.virtualBack hx (y := (⟨"com/example/kerb/kerb/txn/LockKind", "covers", "(Lcom/example/kerb/kerb/txn/LockKind;)Z"⟩ : MethodName)) (z := (⟨"com/example/kerb/kerb/txn/LockKind", "covers", "(Lcom/example/kerb/kerb/txn/LockKind;)Z"⟩ : MethodName)) hown (mvT hZ (hw _ (List.mem_of_getElem? (i := 10) rfl))) (mvT hZ (hw _ (List.mem_of_getElem? (i := 11) rfl))) (notFace_of_selects (args := #[]) (mvT hZ (hw _ (List.mem_of_getElem? (i := 13) rfl)))) (mvT hZ (hw _ (List.mem_of_getElem? (i := 13) rfl))) (mvT hZ (hw _ (List.mem_of_getElem? (i := 12) rfl))) (by decide) (backOf (W := 0) (own_rm2 l Z a0 hw [] w_RECORD w_IMPLICIT (1 : Int32) w_NEXT_KEY w_GAP w_RECORD w_IMPLICIT h0 n0 Z0 F_coversRecord_w_RECORD S_NEXT_KEY S_GAP S_RECORD S_IMPLICIT) hZ (hw _ (List.mem_of_getElem? (i := 14) rfl)) (hw _ (List.mem_of_getElem? (i := 6) rfl)) (by decide) (by decide)) q240a q240c (g := (mkF m 32 #[.val (.int p1), .val (.int p2), .val (.int (3 : Int32)), .val (.int (4 : Int32)), .val (.ref w_RECORD), .val (.ref w_IMPLICIT)] [(.ref w_IMPLICIT), (.ref w_RECORD)])) rfl (by rw [hml]; rfl) (Steps.refl _) (argsL := [(.ref w_IMPLICIT)]) (rest := []) (lenOf own_pd94 rfl) rfl (by show 2 * 0 + _ ≤ _; exact Nat.le_of_eq rfl) (hb hby at_32) (fun _ _ => ⟨rfl, e238, (by decide : 0 + 0 ≤ _), (by decide : 0 + 0 ≤ _)⟩)
                    dsimp only [Pt.U, Pt.locs, Pt.cells, Pt.slots] at X240 l240 y240 z240 st240 hQ240
                    subst l240 y240 z240
                    obtain ⟨hv240, N240q, e240⟩ := hQ240
                    have N241 := Fr.app N239 N240q
                    rw [show (own_f2 w_RECORD w_IMPLICIT (1 : Int32) w_NEXT_KEY w_GAP w_RECORD w_IMPLICIT) = (1 : Int32) from by first | rfl | decide | simp [own_f2, ne_RECORD_IMPLICIT, ne_RECORD_IMPLICIT.symm]] at hv240
                    subst hv240
                    obtain ⟨v242, _, ⟨T242, L242, k242, n242⟩, -, X242, ⟨Lc242, hQ242, l242, y242, z242⟩, st242⟩ := Jvm.LawKit.callS X240 hx (y := (⟨"com/example/kerb/kerb/txn/LockKindCoversPinLaw", "expected", "(II)Z"⟩ : MethodName)) hown (mvT hZ (hw _ (List.mem_of_getElem? (i := 19) rfl))) (mvT hZ (hw _ (List.mem_of_getElem? (i := 20) rfl))) (mvT hZ (hw _ (List.mem_of_getElem? (i := 3) rfl))) (mvT hZ (hw _ (List.mem_of_getElem? (i := 21) rfl))) (by decide) (backOf (W := 1) (own_rm3 l Z a0 hw [] (3 : Int32) (4 : Int32) h0 n0 Z0) hZ (hw _ (List.mem_of_getElem? (i := 21) rfl)) (hw _ (List.mem_of_getElem? (i := 3) rfl)) (by decide) (by decide)) (g := (mkF m 37 #[.val (.int p1), .val (.int p2), .val (.int (3 : Int32)), .val (.int (4 : Int32)), .val (.ref w_RECORD), .val (.ref w_IMPLICIT)] [(.int (4 : Int32)), (.int (3 : Int32)), (.int (1 : Int32))])) rfl (by rw [hml]; rfl) (argsL := [(.int (3 : Int32)), (.int (4 : Int32))]) (rest := [(.int (1 : Int32))]) (lenOf own_pd95 rfl) rfl (by show 2 * 0 + _ ≤ _; exact Nat.le_of_eq rfl) (hb hby at_37) (fun _ _ => ⟨rfl, e240, (by decide : 0 + 0 ≤ _), (by decide : 0 + 0 ≤ _)⟩)
                    dsimp only [Pt.U, Pt.locs, Pt.cells, Pt.slots] at X242 l242 y242 z242 st242 hQ242
                    subst l242 y242 z242
                    obtain ⟨hv242, N242q, e242⟩ := hQ242
                    have N243 := Fr.app N241 N242q
                    rw [show (own_f3 (3 : Int32) (4 : Int32)) = (1 : Int32) from by first | rfl | decide | simp [own_f3]] at hv242
                    subst hv242
                    obtain ⟨fs, hr, hrun, hended, hW, hsame⟩ := X242.leave (v := some (.int (1 : Int32))) (fun h => by rw [Bd.returns] at h; cases h)
                    refine ⟨_, _, k235 _ ?_, hrun, hended, _, _, rfl, ?_, ⟨_, rfl⟩, hW, hsame.mono (by decide) (by decide)⟩
                    · show Steps p.tables e below (s₁.setTop (mkF m 15 #[.val (.int p1), .val (.int p2), .val (.int (3 : Int32)), .unset, .unset, .unset] [(.int (4 : Int32))])) _
                      refine XS.istoreN X0.here hx rfl (hb hby at_15) rfl (l' := #[.val (.int p1), .val (.int p2), .val (.int (3 : Int32)), .val (.int (4 : Int32)), .unset, .unset]) rfl ?_
                      show Steps p.tables e below (s₁.setTop (mkF m 16 #[.val (.int p1), .val (.int p2), .val (.int (3 : Int32)), .val (.int (4 : Int32)), .unset, .unset] [])) _
                      refine XS.iloadN X0.here hx rfl (hb hby at_16) rfl ?_
                      show Steps p.tables e below (s₁.setTop (mkF m 17 #[.val (.int p1), .val (.int p2), .val (.int (3 : Int32)), .val (.int (4 : Int32)), .unset, .unset] [(.int (3 : Int32))])) _
                      refine st236 _ ?_
                      show Steps p.tables e below (T236.setTop (mkF m 20 #[.val (.int p1), .val (.int p2), .val (.int (3 : Int32)), .val (.int (4 : Int32)), .unset, .unset] [(.ref w_RECORD)])) _
                      refine XS.astore X236.here hx rfl (hb hby at_20) rfl rfl (l' := #[.val (.int p1), .val (.int p2), .val (.int (3 : Int32)), .val (.int (4 : Int32)), .val (.ref w_RECORD), .unset]) rfl ?_
                      show Steps p.tables e below (T236.setTop (mkF m 22 #[.val (.int p1), .val (.int p2), .val (.int (3 : Int32)), .val (.int (4 : Int32)), .val (.ref w_RECORD), .unset] [])) _
                      refine XS.iloadN X236.here hx rfl (hb hby at_22) rfl ?_
                      show Steps p.tables e below (T236.setTop (mkF m 23 #[.val (.int p1), .val (.int p2), .val (.int (3 : Int32)), .val (.int (4 : Int32)), .val (.ref w_RECORD), .unset] [(.int (4 : Int32))])) _
                      refine st238 _ ?_
                      show Steps p.tables e below (T238.setTop (mkF m 26 #[.val (.int p1), .val (.int p2), .val (.int (3 : Int32)), .val (.int (4 : Int32)), .val (.ref w_RECORD), .unset] [(.ref w_IMPLICIT)])) _
                      refine XS.astore X238.here hx rfl (hb hby at_26) rfl rfl (l' := #[.val (.int p1), .val (.int p2), .val (.int (3 : Int32)), .val (.int (4 : Int32)), .val (.ref w_RECORD), .val (.ref w_IMPLICIT)]) rfl ?_
                      show Steps p.tables e below (T238.setTop (mkF m 28 #[.val (.int p1), .val (.int p2), .val (.int (3 : Int32)), .val (.int (4 : Int32)), .val (.ref w_RECORD), .val (.ref w_IMPLICIT)] [])) _
                      refine XS.aload X238.here hx rfl (hb hby at_28) rfl rfl ?_
                      show Steps p.tables e below (T238.setTop (mkF m 30 #[.val (.int p1), .val (.int p2), .val (.int (3 : Int32)), .val (.int (4 : Int32)), .val (.ref w_RECORD), .val (.ref w_IMPLICIT)] [(.ref w_RECORD)])) _
                      refine XS.aload X238.here hx rfl (hb hby at_30) rfl rfl ?_
                      show Steps p.tables e below (T238.setTop (mkF m 32 #[.val (.int p1), .val (.int p2), .val (.int (3 : Int32)), .val (.int (4 : Int32)), .val (.ref w_RECORD), .val (.ref w_IMPLICIT)] [(.ref w_IMPLICIT), (.ref w_RECORD)])) _
                      refine st240.trans ?_
                      show Steps p.tables e below (T240.setTop (mkF m 35 #[.val (.int p1), .val (.int p2), .val (.int (3 : Int32)), .val (.int (4 : Int32)), .val (.ref w_RECORD), .val (.ref w_IMPLICIT)] [(.int (1 : Int32))])) _
                      refine XS.iloadN X240.here hx rfl (hb hby at_35) rfl ?_
                      show Steps p.tables e below (T240.setTop (mkF m 36 #[.val (.int p1), .val (.int p2), .val (.int (3 : Int32)), .val (.int (4 : Int32)), .val (.ref w_RECORD), .val (.ref w_IMPLICIT)] [(.int (3 : Int32)), (.int (1 : Int32))])) _
                      refine XS.iloadN X240.here hx rfl (hb hby at_36) rfl ?_
                      show Steps p.tables e below (T240.setTop (mkF m 37 #[.val (.int p1), .val (.int p2), .val (.int (3 : Int32)), .val (.int (4 : Int32)), .val (.ref w_RECORD), .val (.ref w_IMPLICIT)] [(.int (4 : Int32)), (.int (3 : Int32)), (.int (1 : Int32))])) _
                      refine st242 _ ?_
                      show Steps p.tables e below (T242.setTop (mkF m 40 #[.val (.int p1), .val (.int p2), .val (.int (3 : Int32)), .val (.int (4 : Int32)), .val (.ref w_RECORD), .val (.ref w_IMPLICIT)] [(.int (1 : Int32)), (.int (1 : Int32))])) _
                      refine XS.icmpNo X242.here hx rfl (hb hby at_40) rfl (teq (by decide : (1 : Int32) = (1 : Int32))).2 ?_
                      show Steps p.tables e below (T242.setTop (mkF m 43 #[.val (.int p1), .val (.int p2), .val (.int (3 : Int32)), .val (.int (4 : Int32)), .val (.ref w_RECORD), .val (.ref w_IMPLICIT)] [])) _
                      refine XS.iconst X242.here hx rfl (hb hby at_43) ?_
                      show Steps p.tables e below (T242.setTop (mkF m 44 #[.val (.int p1), .val (.int p2), .val (.int (3 : Int32)), .val (.int (4 : Int32)), .val (.ref w_RECORD), .val (.ref w_IMPLICIT)] [(.int (1 : Int32))])) _
                      refine XS.goto X242.here hx rfl (pc0 := 44) (pc' := 48) rfl (hb hby at_44) (by decide) (by decide) ?_
                      show Steps p.tables e below (T242.setTop (mkF m 48 #[.val (.int p1), .val (.int p2), .val (.int (3 : Int32)), .val (.int (4 : Int32)), .val (.ref w_RECORD), .val (.ref w_IMPLICIT)] [(.int (1 : Int32))])) _
                      exact retN X242 hx (t := .boolean) Bd.returns (by simp) (hb hby at_48) hr
                    · show own_Q0 Z p1 p2 w_INTENTION w_TABLE w_NEXT_KEY w_RECORD w_IMPLICIT w_GAP w_INSERT_INTENTION h0 n0 _ T242.heap _
                      rw [e242]
                      exact ⟨(by rw [own_f0, if_neg hc1, if_neg hc9, if_neg hc17, if_pos hc25, if_neg hc26, if_neg hc27, if_neg hc28, if_neg hc29, if_pos hc30]), N243⟩
                  ·
                    by_cases hc31 : ((p2 &&& (2147483647 : Int32)) - ((p2 &&& (2147483647 : Int32)) / (7 : Int32)) * (7 : Int32)) = (5 : Int32)
                    ·
                      have k244 : ∀ t, Steps p.tables e below (s₁.setTop (mkF m 15 #[.val (.int p1), .val (.int p2), .val (.int (3 : Int32)), .unset, .unset, .unset] [(.int (5 : Int32))])) t → Steps p.tables e below (s₁.setTop (entryFrame m #[(.int p1), (.int p2)] maxLocals)) t := by
                        intro t kt
                        refine k198 t ?_
                        rw [hc31]
                        exact kt
                      obtain ⟨v245, _, ⟨T245, L245, k245, n245⟩, -, X245, ⟨Lc245, hQ245, l245, y245, z245⟩, st245⟩ := Jvm.LawKit.callS X0 hx (y := (⟨"com/example/kerb/kerb/txn/LockKindCoversPinLaw", "pick", "(I)Lcom/example/kerb/kerb/txn/LockKind;"⟩ : MethodName)) hown (mvT hZ (hw _ (List.mem_of_getElem? (i := 1) rfl))) (mvT hZ (hw _ (List.mem_of_getElem? (i := 2) rfl))) (mvT hZ (hw _ (List.mem_of_getElem? (i := 3) rfl))) (mvT hZ (hw _ (List.mem_of_getElem? (i := 4) rfl))) (by decide) (backOf (W := 0) (own_rm1 l Z a0 hw [] (3 : Int32) w_INTENTION w_TABLE w_NEXT_KEY w_RECORD w_IMPLICIT w_GAP w_INSERT_INTENTION h0 n0 Z0 S_INTENTION S_TABLE S_NEXT_KEY S_RECORD S_IMPLICIT S_GAP S_INSERT_INTENTION) hZ (hw _ (List.mem_of_getElem? (i := 4) rfl)) (hw _ (List.mem_of_getElem? (i := 3) rfl)) (by decide) (by decide)) (g := (mkF m 17 #[.val (.int p1), .val (.int p2), .val (.int (3 : Int32)), .val (.int (5 : Int32)), .unset, .unset] [(.int (3 : Int32))])) rfl (by rw [hml]; rfl) (argsL := [(.int (3 : Int32))]) (rest := []) (lenOf own_pd93 rfl) rfl (by show 2 * 0 + _ ≤ _; exact Nat.le_of_eq rfl) (hb hby at_17) (fun _ _ => ⟨rfl, e0, (by decide : 0 + 0 ≤ _), (by decide : 0 + 0 ≤ _)⟩)
                      dsimp only [Pt.U, Pt.locs, Pt.cells, Pt.slots] at X245 l245 y245 z245 st245 hQ245
                      subst l245 y245 z245
                      obtain ⟨hv245, N245q, e245⟩ := hQ245
                      have N246 := Fr.app N0 N245q
                      rw [show (own_f1 (3 : Int32) w_INTENTION w_TABLE w_NEXT_KEY w_RECORD w_IMPLICIT w_GAP w_INSERT_INTENTION) = w_RECORD from by first | rfl | decide | simp [own_f1]] at hv245
                      subst hv245
                      obtain ⟨v247, _, ⟨T247, L247, k247, n247⟩, -, X247, ⟨Lc247, hQ247, l247, y247, z247⟩, st247⟩ := Jvm.LawKit.callS X245 hx (y := (⟨"com/example/kerb/kerb/txn/LockKindCoversPinLaw", "pick", "(I)Lcom/example/kerb/kerb/txn/LockKind;"⟩ : MethodName)) hown (mvT hZ (hw _ (List.mem_of_getElem? (i := 1) rfl))) (mvT hZ (hw _ (List.mem_of_getElem? (i := 2) rfl))) (mvT hZ (hw _ (List.mem_of_getElem? (i := 3) rfl))) (mvT hZ (hw _ (List.mem_of_getElem? (i := 4) rfl))) (by decide) (backOf (W := 0) (own_rm1 l Z a0 hw [] (5 : Int32) w_INTENTION w_TABLE w_NEXT_KEY w_RECORD w_IMPLICIT w_GAP w_INSERT_INTENTION h0 n0 Z0 S_INTENTION S_TABLE S_NEXT_KEY S_RECORD S_IMPLICIT S_GAP S_INSERT_INTENTION) hZ (hw _ (List.mem_of_getElem? (i := 4) rfl)) (hw _ (List.mem_of_getElem? (i := 3) rfl)) (by decide) (by decide)) (g := (mkF m 23 #[.val (.int p1), .val (.int p2), .val (.int (3 : Int32)), .val (.int (5 : Int32)), .val (.ref w_RECORD), .unset] [(.int (5 : Int32))])) rfl (by rw [hml]; rfl) (argsL := [(.int (5 : Int32))]) (rest := []) (lenOf own_pd93 rfl) rfl (by show 2 * 0 + _ ≤ _; exact Nat.le_of_eq rfl) (hb hby at_23) (fun _ _ => ⟨rfl, e245, (by decide : 0 + 0 ≤ _), (by decide : 0 + 0 ≤ _)⟩)
                      dsimp only [Pt.U, Pt.locs, Pt.cells, Pt.slots] at X247 l247 y247 z247 st247 hQ247
                      subst l247 y247 z247
                      obtain ⟨hv247, N247q, e247⟩ := hQ247
                      have N248 := Fr.app N246 N247q
                      rw [show (own_f1 (5 : Int32) w_INTENTION w_TABLE w_NEXT_KEY w_RECORD w_IMPLICIT w_GAP w_INSERT_INTENTION) = w_GAP from by first | rfl | decide | simp [own_f1]] at hv247
                      subst hv247
                      obtain ⟨cq249, kq249, q249a, q249b, q249c⟩ := isOf hZ e247 E_w_RECORD
                      obtain ⟨v249, _, ⟨T249, L249, k249, n249⟩, -, X249, ⟨Lc249, hQ249, l249, y249, z249⟩, st249⟩ := X247.virtualBack hx (y := (⟨"com/example/kerb/kerb/txn/LockKind", "covers", "(Lcom/example/kerb/kerb/txn/LockKind;)Z"⟩ : MethodName)) (z := (⟨"com/example/kerb/kerb/txn/LockKind", "covers", "(Lcom/example/kerb/kerb/txn/LockKind;)Z"⟩ : MethodName)) hown (mvT hZ (hw _ (List.mem_of_getElem? (i := 10) rfl))) (mvT hZ (hw _ (List.mem_of_getElem? (i := 11) rfl))) (notFace_of_selects (args := #[]) (mvT hZ (hw _ (List.mem_of_getElem? (i := 13) rfl)))) (mvT hZ (hw _ (List.mem_of_getElem? (i := 13) rfl))) (mvT hZ (hw _ (List.mem_of_getElem? (i := 12) rfl))) (by decide) (backOf (W := 0) (own_rm2 l Z a0 hw [] w_RECORD w_GAP (1 : Int32) w_NEXT_KEY w_GAP w_RECORD w_IMPLICIT h0 n0 Z0 F_coversRecord_w_RECORD S_NEXT_KEY S_GAP S_RECORD S_IMPLICIT) hZ (hw _ (List.mem_of_getElem? (i := 14) rfl)) (hw _ (List.mem_of_getElem? (i := 6) rfl)) (by decide) (by decide)) q249a q249c (g := (mkF m 32 #[.val (.int p1), .val (.int p2), .val (.int (3 : Int32)), .val (.int (5 : Int32)), .val (.ref w_RECORD), .val (.ref w_GAP)] [(.ref w_GAP), (.ref w_RECORD)])) rfl (by rw [hml]; rfl) (Steps.refl _) (argsL := [(.ref w_GAP)]) (rest := []) (lenOf own_pd94 rfl) rfl (by show 2 * 0 + _ ≤ _; exact Nat.le_of_eq rfl) (hb hby at_32) (fun _ _ => ⟨rfl, e247, (by decide : 0 + 0 ≤ _), (by decide : 0 + 0 ≤ _)⟩)
                      dsimp only [Pt.U, Pt.locs, Pt.cells, Pt.slots] at X249 l249 y249 z249 st249 hQ249
                      subst l249 y249 z249
                      obtain ⟨hv249, N249q, e249⟩ := hQ249
                      have N250 := Fr.app N248 N249q
                      rw [show (own_f2 w_RECORD w_GAP (1 : Int32) w_NEXT_KEY w_GAP w_RECORD w_IMPLICIT) = (0 : Int32) from by first | rfl | decide | simp [own_f2, ne_IMPLICIT_GAP.symm, ne_NEXT_KEY_RECORD.symm, ne_RECORD_GAP, ne_RECORD_GAP.symm]] at hv249
                      subst hv249
                      obtain ⟨v251, _, ⟨T251, L251, k251, n251⟩, -, X251, ⟨Lc251, hQ251, l251, y251, z251⟩, st251⟩ := Jvm.LawKit.callS X249 hx (y := (⟨"com/example/kerb/kerb/txn/LockKindCoversPinLaw", "expected", "(II)Z"⟩ : MethodName)) hown (mvT hZ (hw _ (List.mem_of_getElem? (i := 19) rfl))) (mvT hZ (hw _ (List.mem_of_getElem? (i := 20) rfl))) (mvT hZ (hw _ (List.mem_of_getElem? (i := 3) rfl))) (mvT hZ (hw _ (List.mem_of_getElem? (i := 21) rfl))) (by decide) (backOf (W := 1) (own_rm3 l Z a0 hw [] (3 : Int32) (5 : Int32) h0 n0 Z0) hZ (hw _ (List.mem_of_getElem? (i := 21) rfl)) (hw _ (List.mem_of_getElem? (i := 3) rfl)) (by decide) (by decide)) (g := (mkF m 37 #[.val (.int p1), .val (.int p2), .val (.int (3 : Int32)), .val (.int (5 : Int32)), .val (.ref w_RECORD), .val (.ref w_GAP)] [(.int (5 : Int32)), (.int (3 : Int32)), (.int (0 : Int32))])) rfl (by rw [hml]; rfl) (argsL := [(.int (3 : Int32)), (.int (5 : Int32))]) (rest := [(.int (0 : Int32))]) (lenOf own_pd95 rfl) rfl (by show 2 * 0 + _ ≤ _; exact Nat.le_of_eq rfl) (hb hby at_37) (fun _ _ => ⟨rfl, e249, (by decide : 0 + 0 ≤ _), (by decide : 0 + 0 ≤ _)⟩)
                      dsimp only [Pt.U, Pt.locs, Pt.cells, Pt.slots] at X251 l251 y251 z251 st251 hQ251
                      subst l251 y251 z251
                      obtain ⟨hv251, N251q, e251⟩ := hQ251
                      have N252 := Fr.app N250 N251q
                      rw [show (own_f3 (3 : Int32) (5 : Int32)) = (0 : Int32) from by first | rfl | decide | simp [own_f3]] at hv251
                      subst hv251
                      obtain ⟨fs, hr, hrun, hended, hW, hsame⟩ := X251.leave (v := some (.int (1 : Int32))) (fun h => by rw [Bd.returns] at h; cases h)
                      refine ⟨_, _, k244 _ ?_, hrun, hended, _, _, rfl, ?_, ⟨_, rfl⟩, hW, hsame.mono (by decide) (by decide)⟩
                      · show Steps p.tables e below (s₁.setTop (mkF m 15 #[.val (.int p1), .val (.int p2), .val (.int (3 : Int32)), .unset, .unset, .unset] [(.int (5 : Int32))])) _
                        refine XS.istoreN X0.here hx rfl (hb hby at_15) rfl (l' := #[.val (.int p1), .val (.int p2), .val (.int (3 : Int32)), .val (.int (5 : Int32)), .unset, .unset]) rfl ?_
                        show Steps p.tables e below (s₁.setTop (mkF m 16 #[.val (.int p1), .val (.int p2), .val (.int (3 : Int32)), .val (.int (5 : Int32)), .unset, .unset] [])) _
                        refine XS.iloadN X0.here hx rfl (hb hby at_16) rfl ?_
                        show Steps p.tables e below (s₁.setTop (mkF m 17 #[.val (.int p1), .val (.int p2), .val (.int (3 : Int32)), .val (.int (5 : Int32)), .unset, .unset] [(.int (3 : Int32))])) _
                        refine st245 _ ?_
                        show Steps p.tables e below (T245.setTop (mkF m 20 #[.val (.int p1), .val (.int p2), .val (.int (3 : Int32)), .val (.int (5 : Int32)), .unset, .unset] [(.ref w_RECORD)])) _
                        refine XS.astore X245.here hx rfl (hb hby at_20) rfl rfl (l' := #[.val (.int p1), .val (.int p2), .val (.int (3 : Int32)), .val (.int (5 : Int32)), .val (.ref w_RECORD), .unset]) rfl ?_
                        show Steps p.tables e below (T245.setTop (mkF m 22 #[.val (.int p1), .val (.int p2), .val (.int (3 : Int32)), .val (.int (5 : Int32)), .val (.ref w_RECORD), .unset] [])) _
                        refine XS.iloadN X245.here hx rfl (hb hby at_22) rfl ?_
                        show Steps p.tables e below (T245.setTop (mkF m 23 #[.val (.int p1), .val (.int p2), .val (.int (3 : Int32)), .val (.int (5 : Int32)), .val (.ref w_RECORD), .unset] [(.int (5 : Int32))])) _
                        refine st247 _ ?_
                        show Steps p.tables e below (T247.setTop (mkF m 26 #[.val (.int p1), .val (.int p2), .val (.int (3 : Int32)), .val (.int (5 : Int32)), .val (.ref w_RECORD), .unset] [(.ref w_GAP)])) _
                        refine XS.astore X247.here hx rfl (hb hby at_26) rfl rfl (l' := #[.val (.int p1), .val (.int p2), .val (.int (3 : Int32)), .val (.int (5 : Int32)), .val (.ref w_RECORD), .val (.ref w_GAP)]) rfl ?_
                        show Steps p.tables e below (T247.setTop (mkF m 28 #[.val (.int p1), .val (.int p2), .val (.int (3 : Int32)), .val (.int (5 : Int32)), .val (.ref w_RECORD), .val (.ref w_GAP)] [])) _
                        refine XS.aload X247.here hx rfl (hb hby at_28) rfl rfl ?_
                        show Steps p.tables e below (T247.setTop (mkF m 30 #[.val (.int p1), .val (.int p2), .val (.int (3 : Int32)), .val (.int (5 : Int32)), .val (.ref w_RECORD), .val (.ref w_GAP)] [(.ref w_RECORD)])) _
                        refine XS.aload X247.here hx rfl (hb hby at_30) rfl rfl ?_
                        show Steps p.tables e below (T247.setTop (mkF m 32 #[.val (.int p1), .val (.int p2), .val (.int (3 : Int32)), .val (.int (5 : Int32)), .val (.ref w_RECORD), .val (.ref w_GAP)] [(.ref w_GAP), (.ref w_RECORD)])) _
                        refine st249.trans ?_
                        show Steps p.tables e below (T249.setTop (mkF m 35 #[.val (.int p1), .val (.int p2), .val (.int (3 : Int32)), .val (.int (5 : Int32)), .val (.ref w_RECORD), .val (.ref w_GAP)] [(.int (0 : Int32))])) _
                        refine XS.iloadN X249.here hx rfl (hb hby at_35) rfl ?_
                        show Steps p.tables e below (T249.setTop (mkF m 36 #[.val (.int p1), .val (.int p2), .val (.int (3 : Int32)), .val (.int (5 : Int32)), .val (.ref w_RECORD), .val (.ref w_GAP)] [(.int (3 : Int32)), (.int (0 : Int32))])) _
                        refine XS.iloadN X249.here hx rfl (hb hby at_36) rfl ?_
                        show Steps p.tables e below (T249.setTop (mkF m 37 #[.val (.int p1), .val (.int p2), .val (.int (3 : Int32)), .val (.int (5 : Int32)), .val (.ref w_RECORD), .val (.ref w_GAP)] [(.int (5 : Int32)), (.int (3 : Int32)), (.int (0 : Int32))])) _
                        refine st251 _ ?_
                        show Steps p.tables e below (T251.setTop (mkF m 40 #[.val (.int p1), .val (.int p2), .val (.int (3 : Int32)), .val (.int (5 : Int32)), .val (.ref w_RECORD), .val (.ref w_GAP)] [(.int (0 : Int32)), (.int (0 : Int32))])) _
                        refine XS.icmpNo X251.here hx rfl (hb hby at_40) rfl (teq (by decide : (0 : Int32) = (0 : Int32))).2 ?_
                        show Steps p.tables e below (T251.setTop (mkF m 43 #[.val (.int p1), .val (.int p2), .val (.int (3 : Int32)), .val (.int (5 : Int32)), .val (.ref w_RECORD), .val (.ref w_GAP)] [])) _
                        refine XS.iconst X251.here hx rfl (hb hby at_43) ?_
                        show Steps p.tables e below (T251.setTop (mkF m 44 #[.val (.int p1), .val (.int p2), .val (.int (3 : Int32)), .val (.int (5 : Int32)), .val (.ref w_RECORD), .val (.ref w_GAP)] [(.int (1 : Int32))])) _
                        refine XS.goto X251.here hx rfl (pc0 := 44) (pc' := 48) rfl (hb hby at_44) (by decide) (by decide) ?_
                        show Steps p.tables e below (T251.setTop (mkF m 48 #[.val (.int p1), .val (.int p2), .val (.int (3 : Int32)), .val (.int (5 : Int32)), .val (.ref w_RECORD), .val (.ref w_GAP)] [(.int (1 : Int32))])) _
                        exact retN X251 hx (t := .boolean) Bd.returns (by simp) (hb hby at_48) hr
                      · show own_Q0 Z p1 p2 w_INTENTION w_TABLE w_NEXT_KEY w_RECORD w_IMPLICIT w_GAP w_INSERT_INTENTION h0 n0 _ T251.heap _
                        rw [e251]
                        exact ⟨(by rw [own_f0, if_neg hc1, if_neg hc9, if_neg hc17, if_pos hc25, if_neg hc26, if_neg hc27, if_neg hc28, if_neg hc29, if_neg hc30, if_pos hc31]), N252⟩
                    ·
                      have hc32 : ((p2 &&& (2147483647 : Int32)) - ((p2 &&& (2147483647 : Int32)) / (7 : Int32)) * (7 : Int32)) = (6 : Int32) := own_exh p2 hc26 hc27 hc28 hc29 hc30 hc31
                      have k253 : ∀ t, Steps p.tables e below (s₁.setTop (mkF m 15 #[.val (.int p1), .val (.int p2), .val (.int (3 : Int32)), .unset, .unset, .unset] [(.int (6 : Int32))])) t → Steps p.tables e below (s₁.setTop (entryFrame m #[(.int p1), (.int p2)] maxLocals)) t := by
                        intro t kt
                        refine k198 t ?_
                        rw [hc32]
                        exact kt
                      obtain ⟨v254, _, ⟨T254, L254, k254, n254⟩, -, X254, ⟨Lc254, hQ254, l254, y254, z254⟩, st254⟩ := Jvm.LawKit.callS X0 hx (y := (⟨"com/example/kerb/kerb/txn/LockKindCoversPinLaw", "pick", "(I)Lcom/example/kerb/kerb/txn/LockKind;"⟩ : MethodName)) hown (mvT hZ (hw _ (List.mem_of_getElem? (i := 1) rfl))) (mvT hZ (hw _ (List.mem_of_getElem? (i := 2) rfl))) (mvT hZ (hw _ (List.mem_of_getElem? (i := 3) rfl))) (mvT hZ (hw _ (List.mem_of_getElem? (i := 4) rfl))) (by decide) (backOf (W := 0) (own_rm1 l Z a0 hw [] (3 : Int32) w_INTENTION w_TABLE w_NEXT_KEY w_RECORD w_IMPLICIT w_GAP w_INSERT_INTENTION h0 n0 Z0 S_INTENTION S_TABLE S_NEXT_KEY S_RECORD S_IMPLICIT S_GAP S_INSERT_INTENTION) hZ (hw _ (List.mem_of_getElem? (i := 4) rfl)) (hw _ (List.mem_of_getElem? (i := 3) rfl)) (by decide) (by decide)) (g := (mkF m 17 #[.val (.int p1), .val (.int p2), .val (.int (3 : Int32)), .val (.int (6 : Int32)), .unset, .unset] [(.int (3 : Int32))])) rfl (by rw [hml]; rfl) (argsL := [(.int (3 : Int32))]) (rest := []) (lenOf own_pd93 rfl) rfl (by show 2 * 0 + _ ≤ _; exact Nat.le_of_eq rfl) (hb hby at_17) (fun _ _ => ⟨rfl, e0, (by decide : 0 + 0 ≤ _), (by decide : 0 + 0 ≤ _)⟩)
                      dsimp only [Pt.U, Pt.locs, Pt.cells, Pt.slots] at X254 l254 y254 z254 st254 hQ254
                      subst l254 y254 z254
                      obtain ⟨hv254, N254q, e254⟩ := hQ254
                      have N255 := Fr.app N0 N254q
                      rw [show (own_f1 (3 : Int32) w_INTENTION w_TABLE w_NEXT_KEY w_RECORD w_IMPLICIT w_GAP w_INSERT_INTENTION) = w_RECORD from by first | rfl | decide | simp [own_f1]] at hv254
                      subst hv254
                      obtain ⟨v256, _, ⟨T256, L256, k256, n256⟩, -, X256, ⟨Lc256, hQ256, l256, y256, z256⟩, st256⟩ := Jvm.LawKit.callS X254 hx (y := (⟨"com/example/kerb/kerb/txn/LockKindCoversPinLaw", "pick", "(I)Lcom/example/kerb/kerb/txn/LockKind;"⟩ : MethodName)) hown (mvT hZ (hw _ (List.mem_of_getElem? (i := 1) rfl))) (mvT hZ (hw _ (List.mem_of_getElem? (i := 2) rfl))) (mvT hZ (hw _ (List.mem_of_getElem? (i := 3) rfl))) (mvT hZ (hw _ (List.mem_of_getElem? (i := 4) rfl))) (by decide) (backOf (W := 0) (own_rm1 l Z a0 hw [] (6 : Int32) w_INTENTION w_TABLE w_NEXT_KEY w_RECORD w_IMPLICIT w_GAP w_INSERT_INTENTION h0 n0 Z0 S_INTENTION S_TABLE S_NEXT_KEY S_RECORD S_IMPLICIT S_GAP S_INSERT_INTENTION) hZ (hw _ (List.mem_of_getElem? (i := 4) rfl)) (hw _ (List.mem_of_getElem? (i := 3) rfl)) (by decide) (by decide)) (g := (mkF m 23 #[.val (.int p1), .val (.int p2), .val (.int (3 : Int32)), .val (.int (6 : Int32)), .val (.ref w_RECORD), .unset] [(.int (6 : Int32))])) rfl (by rw [hml]; rfl) (argsL := [(.int (6 : Int32))]) (rest := []) (lenOf own_pd93 rfl) rfl (by show 2 * 0 + _ ≤ _; exact Nat.le_of_eq rfl) (hb hby at_23) (fun _ _ => ⟨rfl, e254, (by decide : 0 + 0 ≤ _), (by decide : 0 + 0 ≤ _)⟩)
                      dsimp only [Pt.U, Pt.locs, Pt.cells, Pt.slots] at X256 l256 y256 z256 st256 hQ256
                      subst l256 y256 z256
                      obtain ⟨hv256, N256q, e256⟩ := hQ256
                      have N257 := Fr.app N255 N256q
                      rw [show (own_f1 (6 : Int32) w_INTENTION w_TABLE w_NEXT_KEY w_RECORD w_IMPLICIT w_GAP w_INSERT_INTENTION) = w_INSERT_INTENTION from by first | rfl | decide | simp [own_f1]] at hv256
                      subst hv256
                      obtain ⟨cq258, kq258, q258a, q258b, q258c⟩ := isOf hZ e256 E_w_RECORD
                      obtain ⟨v258, _, ⟨T258, L258, k258, n258⟩, -, X258, ⟨Lc258, hQ258, l258, y258, z258⟩, st258⟩ := X256.virtualBack hx (y := (⟨"com/example/kerb/kerb/txn/LockKind", "covers", "(Lcom/example/kerb/kerb/txn/LockKind;)Z"⟩ : MethodName)) (z := (⟨"com/example/kerb/kerb/txn/LockKind", "covers", "(Lcom/example/kerb/kerb/txn/LockKind;)Z"⟩ : MethodName)) hown (mvT hZ (hw _ (List.mem_of_getElem? (i := 10) rfl))) (mvT hZ (hw _ (List.mem_of_getElem? (i := 11) rfl))) (notFace_of_selects (args := #[]) (mvT hZ (hw _ (List.mem_of_getElem? (i := 13) rfl)))) (mvT hZ (hw _ (List.mem_of_getElem? (i := 13) rfl))) (mvT hZ (hw _ (List.mem_of_getElem? (i := 12) rfl))) (by decide) (backOf (W := 0) (own_rm2 l Z a0 hw [] w_RECORD w_INSERT_INTENTION (1 : Int32) w_NEXT_KEY w_GAP w_RECORD w_IMPLICIT h0 n0 Z0 F_coversRecord_w_RECORD S_NEXT_KEY S_GAP S_RECORD S_IMPLICIT) hZ (hw _ (List.mem_of_getElem? (i := 14) rfl)) (hw _ (List.mem_of_getElem? (i := 6) rfl)) (by decide) (by decide)) q258a q258c (g := (mkF m 32 #[.val (.int p1), .val (.int p2), .val (.int (3 : Int32)), .val (.int (6 : Int32)), .val (.ref w_RECORD), .val (.ref w_INSERT_INTENTION)] [(.ref w_INSERT_INTENTION), (.ref w_RECORD)])) rfl (by rw [hml]; rfl) (Steps.refl _) (argsL := [(.ref w_INSERT_INTENTION)]) (rest := []) (lenOf own_pd94 rfl) rfl (by show 2 * 0 + _ ≤ _; exact Nat.le_of_eq rfl) (hb hby at_32) (fun _ _ => ⟨rfl, e256, (by decide : 0 + 0 ≤ _), (by decide : 0 + 0 ≤ _)⟩)
                      dsimp only [Pt.U, Pt.locs, Pt.cells, Pt.slots] at X258 l258 y258 z258 st258 hQ258
                      subst l258 y258 z258
                      obtain ⟨hv258, N258q, e258⟩ := hQ258
                      have N259 := Fr.app N257 N258q
                      rw [show (own_f2 w_RECORD w_INSERT_INTENTION (1 : Int32) w_NEXT_KEY w_GAP w_RECORD w_IMPLICIT) = (0 : Int32) from by first | rfl | decide | simp [own_f2, ne_IMPLICIT_INSERT_INTENTION.symm, ne_NEXT_KEY_RECORD.symm, ne_RECORD_INSERT_INTENTION, ne_RECORD_INSERT_INTENTION.symm]] at hv258
                      subst hv258
                      obtain ⟨v260, _, ⟨T260, L260, k260, n260⟩, -, X260, ⟨Lc260, hQ260, l260, y260, z260⟩, st260⟩ := Jvm.LawKit.callS X258 hx (y := (⟨"com/example/kerb/kerb/txn/LockKindCoversPinLaw", "expected", "(II)Z"⟩ : MethodName)) hown (mvT hZ (hw _ (List.mem_of_getElem? (i := 19) rfl))) (mvT hZ (hw _ (List.mem_of_getElem? (i := 20) rfl))) (mvT hZ (hw _ (List.mem_of_getElem? (i := 3) rfl))) (mvT hZ (hw _ (List.mem_of_getElem? (i := 21) rfl))) (by decide) (backOf (W := 1) (own_rm3 l Z a0 hw [] (3 : Int32) (6 : Int32) h0 n0 Z0) hZ (hw _ (List.mem_of_getElem? (i := 21) rfl)) (hw _ (List.mem_of_getElem? (i := 3) rfl)) (by decide) (by decide)) (g := (mkF m 37 #[.val (.int p1), .val (.int p2), .val (.int (3 : Int32)), .val (.int (6 : Int32)), .val (.ref w_RECORD), .val (.ref w_INSERT_INTENTION)] [(.int (6 : Int32)), (.int (3 : Int32)), (.int (0 : Int32))])) rfl (by rw [hml]; rfl) (argsL := [(.int (3 : Int32)), (.int (6 : Int32))]) (rest := [(.int (0 : Int32))]) (lenOf own_pd95 rfl) rfl (by show 2 * 0 + _ ≤ _; exact Nat.le_of_eq rfl) (hb hby at_37) (fun _ _ => ⟨rfl, e258, (by decide : 0 + 0 ≤ _), (by decide : 0 + 0 ≤ _)⟩)
                      dsimp only [Pt.U, Pt.locs, Pt.cells, Pt.slots] at X260 l260 y260 z260 st260 hQ260
                      subst l260 y260 z260
                      obtain ⟨hv260, N260q, e260⟩ := hQ260
                      have N261 := Fr.app N259 N260q
                      rw [show (own_f3 (3 : Int32) (6 : Int32)) = (0 : Int32) from by first | rfl | decide | simp [own_f3]] at hv260
                      subst hv260
                      obtain ⟨fs, hr, hrun, hended, hW, hsame⟩ := X260.leave (v := some (.int (1 : Int32))) (fun h => by rw [Bd.returns] at h; cases h)
                      refine ⟨_, _, k253 _ ?_, hrun, hended, _, _, rfl, ?_, ⟨_, rfl⟩, hW, hsame.mono (by decide) (by decide)⟩
                      · show Steps p.tables e below (s₁.setTop (mkF m 15 #[.val (.int p1), .val (.int p2), .val (.int (3 : Int32)), .unset, .unset, .unset] [(.int (6 : Int32))])) _
                        refine XS.istoreN X0.here hx rfl (hb hby at_15) rfl (l' := #[.val (.int p1), .val (.int p2), .val (.int (3 : Int32)), .val (.int (6 : Int32)), .unset, .unset]) rfl ?_
                        show Steps p.tables e below (s₁.setTop (mkF m 16 #[.val (.int p1), .val (.int p2), .val (.int (3 : Int32)), .val (.int (6 : Int32)), .unset, .unset] [])) _
                        refine XS.iloadN X0.here hx rfl (hb hby at_16) rfl ?_
                        show Steps p.tables e below (s₁.setTop (mkF m 17 #[.val (.int p1), .val (.int p2), .val (.int (3 : Int32)), .val (.int (6 : Int32)), .unset, .unset] [(.int (3 : Int32))])) _
                        refine st254 _ ?_
                        show Steps p.tables e below (T254.setTop (mkF m 20 #[.val (.int p1), .val (.int p2), .val (.int (3 : Int32)), .val (.int (6 : Int32)), .unset, .unset] [(.ref w_RECORD)])) _
                        refine XS.astore X254.here hx rfl (hb hby at_20) rfl rfl (l' := #[.val (.int p1), .val (.int p2), .val (.int (3 : Int32)), .val (.int (6 : Int32)), .val (.ref w_RECORD), .unset]) rfl ?_
                        show Steps p.tables e below (T254.setTop (mkF m 22 #[.val (.int p1), .val (.int p2), .val (.int (3 : Int32)), .val (.int (6 : Int32)), .val (.ref w_RECORD), .unset] [])) _
                        refine XS.iloadN X254.here hx rfl (hb hby at_22) rfl ?_
                        show Steps p.tables e below (T254.setTop (mkF m 23 #[.val (.int p1), .val (.int p2), .val (.int (3 : Int32)), .val (.int (6 : Int32)), .val (.ref w_RECORD), .unset] [(.int (6 : Int32))])) _
                        refine st256 _ ?_
                        show Steps p.tables e below (T256.setTop (mkF m 26 #[.val (.int p1), .val (.int p2), .val (.int (3 : Int32)), .val (.int (6 : Int32)), .val (.ref w_RECORD), .unset] [(.ref w_INSERT_INTENTION)])) _
                        refine XS.astore X256.here hx rfl (hb hby at_26) rfl rfl (l' := #[.val (.int p1), .val (.int p2), .val (.int (3 : Int32)), .val (.int (6 : Int32)), .val (.ref w_RECORD), .val (.ref w_INSERT_INTENTION)]) rfl ?_
                        show Steps p.tables e below (T256.setTop (mkF m 28 #[.val (.int p1), .val (.int p2), .val (.int (3 : Int32)), .val (.int (6 : Int32)), .val (.ref w_RECORD), .val (.ref w_INSERT_INTENTION)] [])) _
                        refine XS.aload X256.here hx rfl (hb hby at_28) rfl rfl ?_
                        show Steps p.tables e below (T256.setTop (mkF m 30 #[.val (.int p1), .val (.int p2), .val (.int (3 : Int32)), .val (.int (6 : Int32)), .val (.ref w_RECORD), .val (.ref w_INSERT_INTENTION)] [(.ref w_RECORD)])) _
                        refine XS.aload X256.here hx rfl (hb hby at_30) rfl rfl ?_
                        show Steps p.tables e below (T256.setTop (mkF m 32 #[.val (.int p1), .val (.int p2), .val (.int (3 : Int32)), .val (.int (6 : Int32)), .val (.ref w_RECORD), .val (.ref w_INSERT_INTENTION)] [(.ref w_INSERT_INTENTION), (.ref w_RECORD)])) _
                        refine st258.trans ?_
                        show Steps p.tables e below (T258.setTop (mkF m 35 #[.val (.int p1), .val (.int p2), .val (.int (3 : Int32)), .val (.int (6 : Int32)), .val (.ref w_RECORD), .val (.ref w_INSERT_INTENTION)] [(.int (0 : Int32))])) _
                        refine XS.iloadN X258.here hx rfl (hb hby at_35) rfl ?_
                        show Steps p.tables e below (T258.setTop (mkF m 36 #[.val (.int p1), .val (.int p2), .val (.int (3 : Int32)), .val (.int (6 : Int32)), .val (.ref w_RECORD), .val (.ref w_INSERT_INTENTION)] [(.int (3 : Int32)), (.int (0 : Int32))])) _
                        refine XS.iloadN X258.here hx rfl (hb hby at_36) rfl ?_
                        show Steps p.tables e below (T258.setTop (mkF m 37 #[.val (.int p1), .val (.int p2), .val (.int (3 : Int32)), .val (.int (6 : Int32)), .val (.ref w_RECORD), .val (.ref w_INSERT_INTENTION)] [(.int (6 : Int32)), (.int (3 : Int32)), (.int (0 : Int32))])) _
                        refine st260 _ ?_
                        show Steps p.tables e below (T260.setTop (mkF m 40 #[.val (.int p1), .val (.int p2), .val (.int (3 : Int32)), .val (.int (6 : Int32)), .val (.ref w_RECORD), .val (.ref w_INSERT_INTENTION)] [(.int (0 : Int32)), (.int (0 : Int32))])) _
                        refine XS.icmpNo X260.here hx rfl (hb hby at_40) rfl (teq (by decide : (0 : Int32) = (0 : Int32))).2 ?_
                        show Steps p.tables e below (T260.setTop (mkF m 43 #[.val (.int p1), .val (.int p2), .val (.int (3 : Int32)), .val (.int (6 : Int32)), .val (.ref w_RECORD), .val (.ref w_INSERT_INTENTION)] [])) _
                        refine XS.iconst X260.here hx rfl (hb hby at_43) ?_
                        show Steps p.tables e below (T260.setTop (mkF m 44 #[.val (.int p1), .val (.int p2), .val (.int (3 : Int32)), .val (.int (6 : Int32)), .val (.ref w_RECORD), .val (.ref w_INSERT_INTENTION)] [(.int (1 : Int32))])) _
                        refine XS.goto X260.here hx rfl (pc0 := 44) (pc' := 48) rfl (hb hby at_44) (by decide) (by decide) ?_
                        show Steps p.tables e below (T260.setTop (mkF m 48 #[.val (.int p1), .val (.int p2), .val (.int (3 : Int32)), .val (.int (6 : Int32)), .val (.ref w_RECORD), .val (.ref w_INSERT_INTENTION)] [(.int (1 : Int32))])) _
                        exact retN X260 hx (t := .boolean) Bd.returns (by simp) (hb hby at_48) hr
                      · show own_Q0 Z p1 p2 w_INTENTION w_TABLE w_NEXT_KEY w_RECORD w_IMPLICIT w_GAP w_INSERT_INTENTION h0 n0 _ T260.heap _
                        rw [e260]
                        exact ⟨(by rw [own_f0, if_neg hc1, if_neg hc9, if_neg hc17, if_pos hc25, if_neg hc26, if_neg hc27, if_neg hc28, if_neg hc29, if_neg hc30, if_neg hc31]), N261⟩
        ·
          by_cases hc33 : ((p1 &&& (2147483647 : Int32)) - ((p1 &&& (2147483647 : Int32)) / (7 : Int32)) * (7 : Int32)) = (4 : Int32)
          ·
            have k262 : ∀ t, Steps p.tables e below (s₁.setTop (mkF m 7 #[.val (.int p1), .val (.int p2), .unset, .unset, .unset, .unset] [(.int (4 : Int32))])) t → Steps p.tables e below (s₁.setTop (entryFrame m #[(.int p1), (.int p2)] maxLocals)) t := by
              intro t kt
              refine k1 t ?_
              rw [hc33]
              exact kt
            have k263 : ∀ t, Steps p.tables e below (s₁.setTop (mkF m 15 #[.val (.int p1), .val (.int p2), .val (.int (4 : Int32)), .unset, .unset, .unset] [(.int ((p2 &&& (2147483647 : Int32)) - ((p2 &&& (2147483647 : Int32)) / (7 : Int32)) * (7 : Int32)))])) t → Steps p.tables e below (s₁.setTop (entryFrame m #[(.int p1), (.int p2)] maxLocals)) t := by
              intro t kt
              refine k262 t ?_
              show Steps p.tables e below (s₁.setTop (mkF m 7 #[.val (.int p1), .val (.int p2), .unset, .unset, .unset, .unset] [(.int (4 : Int32))])) _
              refine XS.istoreN X0.here hx rfl (hb hby at_7) rfl (l' := #[.val (.int p1), .val (.int p2), .val (.int (4 : Int32)), .unset, .unset, .unset]) rfl ?_
              show Steps p.tables e below (s₁.setTop (mkF m 8 #[.val (.int p1), .val (.int p2), .val (.int (4 : Int32)), .unset, .unset, .unset] [])) _
              refine XS.iloadN X0.here hx rfl (hb hby at_8) rfl ?_
              show Steps p.tables e below (s₁.setTop (mkF m 9 #[.val (.int p1), .val (.int p2), .val (.int (4 : Int32)), .unset, .unset, .unset] [(.int p2)])) _
              refine X0.ldcInt hx hown (mvT hZ (hw _ (List.mem_of_getElem? (i := 0) rfl))) (g := (mkF m 9 #[.val (.int p1), .val (.int p2), .val (.int (4 : Int32)), .unset, .unset, .unset] [(.int p2)])) rfl (hb hby at_9) _ ?_
              show Steps p.tables e below (s₁.setTop (mkF m 11 #[.val (.int p1), .val (.int p2), .val (.int (4 : Int32)), .unset, .unset, .unset] [(.int (2147483647 : Int32)), (.int p2)])) _
              refine XS.iand X0.here hx rfl (hb hby at_11) rfl ?_
              show Steps p.tables e below (s₁.setTop (mkF m 12 #[.val (.int p1), .val (.int p2), .val (.int (4 : Int32)), .unset, .unset, .unset] [(.int (p2 &&& (2147483647 : Int32)))])) _
              refine XS.bipush X0.here hx rfl (hb hby at_12) ?_
              show Steps p.tables e below (s₁.setTop (mkF m 14 #[.val (.int p1), .val (.int p2), .val (.int (4 : Int32)), .unset, .unset, .unset] [(.int (7 : Int32)), (.int (p2 &&& (2147483647 : Int32)))])) _
              refine XS.irem X0.here hx rfl (hb hby at_14) rfl (by decide) ?_
              exact kt
            by_cases hc34 : ((p2 &&& (2147483647 : Int32)) - ((p2 &&& (2147483647 : Int32)) / (7 : Int32)) * (7 : Int32)) = (0 : Int32)
            ·
              have k264 : ∀ t, Steps p.tables e below (s₁.setTop (mkF m 15 #[.val (.int p1), .val (.int p2), .val (.int (4 : Int32)), .unset, .unset, .unset] [(.int (0 : Int32))])) t → Steps p.tables e below (s₁.setTop (entryFrame m #[(.int p1), (.int p2)] maxLocals)) t := by
                intro t kt
                refine k263 t ?_
                rw [hc34]
                exact kt
              obtain ⟨v265, _, ⟨T265, L265, k265, n265⟩, -, X265, ⟨Lc265, hQ265, l265, y265, z265⟩, st265⟩ := Jvm.LawKit.callS X0 hx (y := (⟨"com/example/kerb/kerb/txn/LockKindCoversPinLaw", "pick", "(I)Lcom/example/kerb/kerb/txn/LockKind;"⟩ : MethodName)) hown (mvT hZ (hw _ (List.mem_of_getElem? (i := 1) rfl))) (mvT hZ (hw _ (List.mem_of_getElem? (i := 2) rfl))) (mvT hZ (hw _ (List.mem_of_getElem? (i := 3) rfl))) (mvT hZ (hw _ (List.mem_of_getElem? (i := 4) rfl))) (by decide) (backOf (W := 0) (own_rm1 l Z a0 hw [] (4 : Int32) w_INTENTION w_TABLE w_NEXT_KEY w_RECORD w_IMPLICIT w_GAP w_INSERT_INTENTION h0 n0 Z0 S_INTENTION S_TABLE S_NEXT_KEY S_RECORD S_IMPLICIT S_GAP S_INSERT_INTENTION) hZ (hw _ (List.mem_of_getElem? (i := 4) rfl)) (hw _ (List.mem_of_getElem? (i := 3) rfl)) (by decide) (by decide)) (g := (mkF m 17 #[.val (.int p1), .val (.int p2), .val (.int (4 : Int32)), .val (.int (0 : Int32)), .unset, .unset] [(.int (4 : Int32))])) rfl (by rw [hml]; rfl) (argsL := [(.int (4 : Int32))]) (rest := []) (lenOf own_pd93 rfl) rfl (by show 2 * 0 + _ ≤ _; exact Nat.le_of_eq rfl) (hb hby at_17) (fun _ _ => ⟨rfl, e0, (by decide : 0 + 0 ≤ _), (by decide : 0 + 0 ≤ _)⟩)
              dsimp only [Pt.U, Pt.locs, Pt.cells, Pt.slots] at X265 l265 y265 z265 st265 hQ265
              subst l265 y265 z265
              obtain ⟨hv265, N265q, e265⟩ := hQ265
              have N266 := Fr.app N0 N265q
              rw [show (own_f1 (4 : Int32) w_INTENTION w_TABLE w_NEXT_KEY w_RECORD w_IMPLICIT w_GAP w_INSERT_INTENTION) = w_IMPLICIT from by first | rfl | decide | simp [own_f1]] at hv265
              subst hv265
              obtain ⟨v267, _, ⟨T267, L267, k267, n267⟩, -, X267, ⟨Lc267, hQ267, l267, y267, z267⟩, st267⟩ := Jvm.LawKit.callS X265 hx (y := (⟨"com/example/kerb/kerb/txn/LockKindCoversPinLaw", "pick", "(I)Lcom/example/kerb/kerb/txn/LockKind;"⟩ : MethodName)) hown (mvT hZ (hw _ (List.mem_of_getElem? (i := 1) rfl))) (mvT hZ (hw _ (List.mem_of_getElem? (i := 2) rfl))) (mvT hZ (hw _ (List.mem_of_getElem? (i := 3) rfl))) (mvT hZ (hw _ (List.mem_of_getElem? (i := 4) rfl))) (by decide) (backOf (W := 0) (own_rm1 l Z a0 hw [] (0 : Int32) w_INTENTION w_TABLE w_NEXT_KEY w_RECORD w_IMPLICIT w_GAP w_INSERT_INTENTION h0 n0 Z0 S_INTENTION S_TABLE S_NEXT_KEY S_RECORD S_IMPLICIT S_GAP S_INSERT_INTENTION) hZ (hw _ (List.mem_of_getElem? (i := 4) rfl)) (hw _ (List.mem_of_getElem? (i := 3) rfl)) (by decide) (by decide)) (g := (mkF m 23 #[.val (.int p1), .val (.int p2), .val (.int (4 : Int32)), .val (.int (0 : Int32)), .val (.ref w_IMPLICIT), .unset] [(.int (0 : Int32))])) rfl (by rw [hml]; rfl) (argsL := [(.int (0 : Int32))]) (rest := []) (lenOf own_pd93 rfl) rfl (by show 2 * 0 + _ ≤ _; exact Nat.le_of_eq rfl) (hb hby at_23) (fun _ _ => ⟨rfl, e265, (by decide : 0 + 0 ≤ _), (by decide : 0 + 0 ≤ _)⟩)
              dsimp only [Pt.U, Pt.locs, Pt.cells, Pt.slots] at X267 l267 y267 z267 st267 hQ267
              subst l267 y267 z267
              obtain ⟨hv267, N267q, e267⟩ := hQ267
              have N268 := Fr.app N266 N267q
              rw [show (own_f1 (0 : Int32) w_INTENTION w_TABLE w_NEXT_KEY w_RECORD w_IMPLICIT w_GAP w_INSERT_INTENTION) = w_INTENTION from by first | rfl | decide | simp [own_f1]] at hv267
              subst hv267
              obtain ⟨cq269, kq269, q269a, q269b, q269c⟩ := isOf hZ e267 E_w_IMPLICIT
              obtain ⟨v269, _, ⟨T269, L269, k269, n269⟩, -, X269, ⟨Lc269, hQ269, l269, y269, z269⟩, st269⟩ := X267.virtualBack hx (y := (⟨"com/example/kerb/kerb/txn/LockKind", "covers", "(Lcom/example/kerb/kerb/txn/LockKind;)Z"⟩ : MethodName)) (z := (⟨"com/example/kerb/kerb/txn/LockKind", "covers", "(Lcom/example/kerb/kerb/txn/LockKind;)Z"⟩ : MethodName)) hown (mvT hZ (hw _ (List.mem_of_getElem? (i := 10) rfl))) (mvT hZ (hw _ (List.mem_of_getElem? (i := 11) rfl))) (notFace_of_selects (args := #[]) (mvT hZ (hw _ (List.mem_of_getElem? (i := 13) rfl)))) (mvT hZ (hw _ (List.mem_of_getElem? (i := 13) rfl))) (mvT hZ (hw _ (List.mem_of_getElem? (i := 12) rfl))) (by decide) (backOf (W := 0) (own_rm2 l Z a0 hw [] w_IMPLICIT w_INTENTION (1 : Int32) w_NEXT_KEY w_GAP w_RECORD w_IMPLICIT h0 n0 Z0 F_coversRecord_w_IMPLICIT S_NEXT_KEY S_GAP S_RECORD S_IMPLICIT) hZ (hw _ (List.mem_of_getElem? (i := 14) rfl)) (hw _ (List.mem_of_getElem? (i := 6) rfl)) (by decide) (by decide)) q269a q269c (g := (mkF m 32 #[.val (.int p1), .val (.int p2), .val (.int (4 : Int32)), .val (.int (0 : Int32)), .val (.ref w_IMPLICIT), .val (.ref w_INTENTION)] [(.ref w_INTENTION), (.ref w_IMPLICIT)])) rfl (by rw [hml]; rfl) (Steps.refl _) (argsL := [(.ref w_INTENTION)]) (rest := []) (lenOf own_pd94 rfl) rfl (by show 2 * 0 + _ ≤ _; exact Nat.le_of_eq rfl) (hb hby at_32) (fun _ _ => ⟨rfl, e267, (by decide : 0 + 0 ≤ _), (by decide : 0 + 0 ≤ _)⟩)
              dsimp only [Pt.U, Pt.locs, Pt.cells, Pt.slots] at X269 l269 y269 z269 st269 hQ269
              subst l269 y269 z269
              obtain ⟨hv269, N269q, e269⟩ := hQ269
              have N270 := Fr.app N268 N269q
              rw [show (own_f2 w_IMPLICIT w_INTENTION (1 : Int32) w_NEXT_KEY w_GAP w_RECORD w_IMPLICIT) = (0 : Int32) from by first | rfl | decide | simp [own_f2, ne_INTENTION_IMPLICIT, ne_INTENTION_IMPLICIT.symm, ne_INTENTION_RECORD, ne_NEXT_KEY_IMPLICIT.symm]] at hv269
              subst hv269
              obtain ⟨v271, _, ⟨T271, L271, k271, n271⟩, -, X271, ⟨Lc271, hQ271, l271, y271, z271⟩, st271⟩ := Jvm.LawKit.callS X269 hx (y := (⟨"com/example/kerb/kerb/txn/LockKindCoversPinLaw", "expected", "(II)Z"⟩ : MethodName)) hown (mvT hZ (hw _ (List.mem_of_getElem? (i := 19) rfl))) (mvT hZ (hw _ (List.mem_of_getElem? (i := 20) rfl))) (mvT hZ (hw _ (List.mem_of_getElem? (i := 3) rfl))) (mvT hZ (hw _ (List.mem_of_getElem? (i := 21) rfl))) (by decide) (backOf (W := 1) (own_rm3 l Z a0 hw [] (4 : Int32) (0 : Int32) h0 n0 Z0) hZ (hw _ (List.mem_of_getElem? (i := 21) rfl)) (hw _ (List.mem_of_getElem? (i := 3) rfl)) (by decide) (by decide)) (g := (mkF m 37 #[.val (.int p1), .val (.int p2), .val (.int (4 : Int32)), .val (.int (0 : Int32)), .val (.ref w_IMPLICIT), .val (.ref w_INTENTION)] [(.int (0 : Int32)), (.int (4 : Int32)), (.int (0 : Int32))])) rfl (by rw [hml]; rfl) (argsL := [(.int (4 : Int32)), (.int (0 : Int32))]) (rest := [(.int (0 : Int32))]) (lenOf own_pd95 rfl) rfl (by show 2 * 0 + _ ≤ _; exact Nat.le_of_eq rfl) (hb hby at_37) (fun _ _ => ⟨rfl, e269, (by decide : 0 + 0 ≤ _), (by decide : 0 + 0 ≤ _)⟩)
              dsimp only [Pt.U, Pt.locs, Pt.cells, Pt.slots] at X271 l271 y271 z271 st271 hQ271
              subst l271 y271 z271
              obtain ⟨hv271, N271q, e271⟩ := hQ271
              have N272 := Fr.app N270 N271q
              rw [show (own_f3 (4 : Int32) (0 : Int32)) = (0 : Int32) from by first | rfl | decide | simp [own_f3]] at hv271
              subst hv271
              obtain ⟨fs, hr, hrun, hended, hW, hsame⟩ := X271.leave (v := some (.int (1 : Int32))) (fun h => by rw [Bd.returns] at h; cases h)
              refine ⟨_, _, k264 _ ?_, hrun, hended, _, _, rfl, ?_, ⟨_, rfl⟩, hW, hsame.mono (by decide) (by decide)⟩
              · show Steps p.tables e below (s₁.setTop (mkF m 15 #[.val (.int p1), .val (.int p2), .val (.int (4 : Int32)), .unset, .unset, .unset] [(.int (0 : Int32))])) _
                refine XS.istoreN X0.here hx rfl (hb hby at_15) rfl (l' := #[.val (.int p1), .val (.int p2), .val (.int (4 : Int32)), .val (.int (0 : Int32)), .unset, .unset]) rfl ?_
                show Steps p.tables e below (s₁.setTop (mkF m 16 #[.val (.int p1), .val (.int p2), .val (.int (4 : Int32)), .val (.int (0 : Int32)), .unset, .unset] [])) _
                refine XS.iloadN X0.here hx rfl (hb hby at_16) rfl ?_
                show Steps p.tables e below (s₁.setTop (mkF m 17 #[.val (.int p1), .val (.int p2), .val (.int (4 : Int32)), .val (.int (0 : Int32)), .unset, .unset] [(.int (4 : Int32))])) _
                refine st265 _ ?_
                show Steps p.tables e below (T265.setTop (mkF m 20 #[.val (.int p1), .val (.int p2), .val (.int (4 : Int32)), .val (.int (0 : Int32)), .unset, .unset] [(.ref w_IMPLICIT)])) _
                refine XS.astore X265.here hx rfl (hb hby at_20) rfl rfl (l' := #[.val (.int p1), .val (.int p2), .val (.int (4 : Int32)), .val (.int (0 : Int32)), .val (.ref w_IMPLICIT), .unset]) rfl ?_
                show Steps p.tables e below (T265.setTop (mkF m 22 #[.val (.int p1), .val (.int p2), .val (.int (4 : Int32)), .val (.int (0 : Int32)), .val (.ref w_IMPLICIT), .unset] [])) _
                refine XS.iloadN X265.here hx rfl (hb hby at_22) rfl ?_
                show Steps p.tables e below (T265.setTop (mkF m 23 #[.val (.int p1), .val (.int p2), .val (.int (4 : Int32)), .val (.int (0 : Int32)), .val (.ref w_IMPLICIT), .unset] [(.int (0 : Int32))])) _
                refine st267 _ ?_
                show Steps p.tables e below (T267.setTop (mkF m 26 #[.val (.int p1), .val (.int p2), .val (.int (4 : Int32)), .val (.int (0 : Int32)), .val (.ref w_IMPLICIT), .unset] [(.ref w_INTENTION)])) _
                refine XS.astore X267.here hx rfl (hb hby at_26) rfl rfl (l' := #[.val (.int p1), .val (.int p2), .val (.int (4 : Int32)), .val (.int (0 : Int32)), .val (.ref w_IMPLICIT), .val (.ref w_INTENTION)]) rfl ?_
                show Steps p.tables e below (T267.setTop (mkF m 28 #[.val (.int p1), .val (.int p2), .val (.int (4 : Int32)), .val (.int (0 : Int32)), .val (.ref w_IMPLICIT), .val (.ref w_INTENTION)] [])) _
                refine XS.aload X267.here hx rfl (hb hby at_28) rfl rfl ?_
                show Steps p.tables e below (T267.setTop (mkF m 30 #[.val (.int p1), .val (.int p2), .val (.int (4 : Int32)), .val (.int (0 : Int32)), .val (.ref w_IMPLICIT), .val (.ref w_INTENTION)] [(.ref w_IMPLICIT)])) _
                refine XS.aload X267.here hx rfl (hb hby at_30) rfl rfl ?_
                show Steps p.tables e below (T267.setTop (mkF m 32 #[.val (.int p1), .val (.int p2), .val (.int (4 : Int32)), .val (.int (0 : Int32)), .val (.ref w_IMPLICIT), .val (.ref w_INTENTION)] [(.ref w_INTENTION), (.ref w_IMPLICIT)])) _
                refine st269.trans ?_
                show Steps p.tables e below (T269.setTop (mkF m 35 #[.val (.int p1), .val (.int p2), .val (.int (4 : Int32)), .val (.int (0 : Int32)), .val (.ref w_IMPLICIT), .val (.ref w_INTENTION)] [(.int (0 : Int32))])) _
                refine XS.iloadN X269.here hx rfl (hb hby at_35) rfl ?_
                show Steps p.tables e below (T269.setTop (mkF m 36 #[.val (.int p1), .val (.int p2), .val (.int (4 : Int32)), .val (.int (0 : Int32)), .val (.ref w_IMPLICIT), .val (.ref w_INTENTION)] [(.int (4 : Int32)), (.int (0 : Int32))])) _
                refine XS.iloadN X269.here hx rfl (hb hby at_36) rfl ?_
                show Steps p.tables e below (T269.setTop (mkF m 37 #[.val (.int p1), .val (.int p2), .val (.int (4 : Int32)), .val (.int (0 : Int32)), .val (.ref w_IMPLICIT), .val (.ref w_INTENTION)] [(.int (0 : Int32)), (.int (4 : Int32)), (.int (0 : Int32))])) _
                refine st271 _ ?_
                show Steps p.tables e below (T271.setTop (mkF m 40 #[.val (.int p1), .val (.int p2), .val (.int (4 : Int32)), .val (.int (0 : Int32)), .val (.ref w_IMPLICIT), .val (.ref w_INTENTION)] [(.int (0 : Int32)), (.int (0 : Int32))])) _
                refine XS.icmpNo X271.here hx rfl (hb hby at_40) rfl (teq (by decide : (0 : Int32) = (0 : Int32))).2 ?_
                show Steps p.tables e below (T271.setTop (mkF m 43 #[.val (.int p1), .val (.int p2), .val (.int (4 : Int32)), .val (.int (0 : Int32)), .val (.ref w_IMPLICIT), .val (.ref w_INTENTION)] [])) _
                refine XS.iconst X271.here hx rfl (hb hby at_43) ?_
                show Steps p.tables e below (T271.setTop (mkF m 44 #[.val (.int p1), .val (.int p2), .val (.int (4 : Int32)), .val (.int (0 : Int32)), .val (.ref w_IMPLICIT), .val (.ref w_INTENTION)] [(.int (1 : Int32))])) _
                refine XS.goto X271.here hx rfl (pc0 := 44) (pc' := 48) rfl (hb hby at_44) (by decide) (by decide) ?_
                show Steps p.tables e below (T271.setTop (mkF m 48 #[.val (.int p1), .val (.int p2), .val (.int (4 : Int32)), .val (.int (0 : Int32)), .val (.ref w_IMPLICIT), .val (.ref w_INTENTION)] [(.int (1 : Int32))])) _
                exact retN X271 hx (t := .boolean) Bd.returns (by simp) (hb hby at_48) hr
              · show own_Q0 Z p1 p2 w_INTENTION w_TABLE w_NEXT_KEY w_RECORD w_IMPLICIT w_GAP w_INSERT_INTENTION h0 n0 _ T271.heap _
                rw [e271]
                exact ⟨(by rw [own_f0, if_neg hc1, if_neg hc9, if_neg hc17, if_neg hc25, if_pos hc33, if_pos hc34]), N272⟩
            ·
              by_cases hc35 : ((p2 &&& (2147483647 : Int32)) - ((p2 &&& (2147483647 : Int32)) / (7 : Int32)) * (7 : Int32)) = (1 : Int32)
              ·
                have k273 : ∀ t, Steps p.tables e below (s₁.setTop (mkF m 15 #[.val (.int p1), .val (.int p2), .val (.int (4 : Int32)), .unset, .unset, .unset] [(.int (1 : Int32))])) t → Steps p.tables e below (s₁.setTop (entryFrame m #[(.int p1), (.int p2)] maxLocals)) t := by
                  intro t kt
                  refine k263 t ?_
                  rw [hc35]
                  exact kt
                obtain ⟨v274, _, ⟨T274, L274, k274, n274⟩, -, X274, ⟨Lc274, hQ274, l274, y274, z274⟩, st274⟩ := Jvm.LawKit.callS X0 hx (y := (⟨"com/example/kerb/kerb/txn/LockKindCoversPinLaw", "pick", "(I)Lcom/example/kerb/kerb/txn/LockKind;"⟩ : MethodName)) hown (mvT hZ (hw _ (List.mem_of_getElem? (i := 1) rfl))) (mvT hZ (hw _ (List.mem_of_getElem? (i := 2) rfl))) (mvT hZ (hw _ (List.mem_of_getElem? (i := 3) rfl))) (mvT hZ (hw _ (List.mem_of_getElem? (i := 4) rfl))) (by decide) (backOf (W := 0) (own_rm1 l Z a0 hw [] (4 : Int32) w_INTENTION w_TABLE w_NEXT_KEY w_RECORD w_IMPLICIT w_GAP w_INSERT_INTENTION h0 n0 Z0 S_INTENTION S_TABLE S_NEXT_KEY S_RECORD S_IMPLICIT S_GAP S_INSERT_INTENTION) hZ (hw _ (List.mem_of_getElem? (i := 4) rfl)) (hw _ (List.mem_of_getElem? (i := 3) rfl)) (by decide) (by decide)) (g := (mkF m 17 #[.val (.int p1), .val (.int p2), .val (.int (4 : Int32)), .val (.int (1 : Int32)), .unset, .unset] [(.int (4 : Int32))])) rfl (by rw [hml]; rfl) (argsL := [(.int (4 : Int32))]) (rest := []) (lenOf own_pd93 rfl) rfl (by show 2 * 0 + _ ≤ _; exact Nat.le_of_eq rfl) (hb hby at_17) (fun _ _ => ⟨rfl, e0, (by decide : 0 + 0 ≤ _), (by decide : 0 + 0 ≤ _)⟩)
                dsimp only [Pt.U, Pt.locs, Pt.cells, Pt.slots] at X274 l274 y274 z274 st274 hQ274
                subst l274 y274 z274
                obtain ⟨hv274, N274q, e274⟩ := hQ274
                have N275 := Fr.app N0 N274q
                rw [show (own_f1 (4 : Int32) w_INTENTION w_TABLE w_NEXT_KEY w_RECORD w_IMPLICIT w_GAP w_INSERT_INTENTION) = w_IMPLICIT from by first | rfl | decide | simp [own_f1]] at hv274
                subst hv274
                obtain ⟨v276, _, ⟨T276, L276, k276, n276⟩, -, X276, ⟨Lc276, hQ276, l276, y276, z276⟩, st276⟩ := Jvm.LawKit.callS X274 hx (y := (⟨"com/example/kerb/kerb/txn/LockKindCoversPinLaw", "pick", "(I)Lcom/example/kerb/kerb/txn/LockKind;"⟩ : MethodName)) hown (mvT hZ (hw _ (List.mem_of_getElem? (i := 1) rfl))) (mvT hZ (hw _ (List.mem_of_getElem? (i := 2) rfl))) (mvT hZ (hw _ (List.mem_of_getElem? (i := 3) rfl))) (mvT hZ (hw _ (List.mem_of_getElem? (i := 4) rfl))) (by decide) (backOf (W := 0) (own_rm1 l Z a0 hw [] (1 : Int32) w_INTENTION w_TABLE w_NEXT_KEY w_RECORD w_IMPLICIT w_GAP w_INSERT_INTENTION h0 n0 Z0 S_INTENTION S_TABLE S_NEXT_KEY S_RECORD S_IMPLICIT S_GAP S_INSERT_INTENTION) hZ (hw _ (List.mem_of_getElem? (i := 4) rfl)) (hw _ (List.mem_of_getElem? (i := 3) rfl)) (by decide) (by decide)) (g := (mkF m 23 #[.val (.int p1), .val (.int p2), .val (.int (4 : Int32)), .val (.int (1 : Int32)), .val (.ref w_IMPLICIT), .unset] [(.int (1 : Int32))])) rfl (by rw [hml]; rfl) (argsL := [(.int (1 : Int32))]) (rest := []) (lenOf own_pd93 rfl) rfl (by show 2 * 0 + _ ≤ _; exact Nat.le_of_eq rfl) (hb hby at_23) (fun _ _ => ⟨rfl, e274, (by decide : 0 + 0 ≤ _), (by decide : 0 + 0 ≤ _)⟩)
                dsimp only [Pt.U, Pt.locs, Pt.cells, Pt.slots] at X276 l276 y276 z276 st276 hQ276
                subst l276 y276 z276
                obtain ⟨hv276, N276q, e276⟩ := hQ276
                have N277 := Fr.app N275 N276q
                rw [show (own_f1 (1 : Int32) w_INTENTION w_TABLE w_NEXT_KEY w_RECORD w_IMPLICIT w_GAP w_INSERT_INTENTION) = w_TABLE from by first | rfl | decide | simp [own_f1]] at hv276
                subst hv276
                obtain ⟨cq278, kq278, q278a, q278b, q278c⟩ := isOf hZ e276 E_w_IMPLICIT
                obtain ⟨v278, _, ⟨T278, L278, k278, n278⟩, -, X278, ⟨Lc278, hQ278, l278, y278, z278⟩, st278⟩ := X276.virtualBack hx (y := (⟨"com/example/kerb/kerb/txn/LockKind", "covers", "(Lcom/example/kerb/kerb/txn/LockKind;)Z"⟩ : MethodName)) (z := (⟨"com/example/kerb/kerb/txn/LockKind", "covers", "(Lcom/example/kerb/kerb/txn/LockKind;)Z"⟩ : MethodName)) hown (mvT hZ (hw _ (List.mem_of_getElem? (i := 10) rfl))) (mvT hZ (hw _ (List.mem_of_getElem? (i := 11) rfl))) (notFace_of_selects (args := #[]) (mvT hZ (hw _ (List.mem_of_getElem? (i := 13) rfl)))) (mvT hZ (hw _ (List.mem_of_getElem? (i := 13) rfl))) (mvT hZ (hw _ (List.mem_of_getElem? (i := 12) rfl))) (by decide) (backOf (W := 0) (own_rm2 l Z a0 hw [] w_IMPLICIT w_TABLE (1 : Int32) w_NEXT_KEY w_GAP w_RECORD w_IMPLICIT h0 n0 Z0 F_coversRecord_w_IMPLICIT S_NEXT_KEY S_GAP S_RECORD S_IMPLICIT) hZ (hw _ (List.mem_of_getElem? (i := 14) rfl)) (hw _ (List.mem_of_getElem? (i := 6) rfl)) (by decide) (by decide)) q278a q278c (g := (mkF m 32 #[.val (.int p1), .val (.int p2), .val (.int (4 : Int32)), .val (.int (1 : Int32)), .val (.ref w_IMPLICIT), .val (.ref w_TABLE)] [(.ref w_TABLE), (.ref w_IMPLICIT)])) rfl (by rw [hml]; rfl) (Steps.refl _) (argsL := [(.ref w_TABLE)]) (rest := []) (lenOf own_pd94 rfl) rfl (by show 2 * 0 + _ ≤ _; exact Nat.le_of_eq rfl) (hb hby at_32) (fun _ _ => ⟨rfl, e276, (by decide : 0 + 0 ≤ _), (by decide : 0 + 0 ≤ _)⟩)
                dsimp only [Pt.U, Pt.locs, Pt.cells, Pt.slots] at X278 l278 y278 z278 st278 hQ278
                subst l278 y278 z278
                obtain ⟨hv278, N278q, e278⟩ := hQ278
                have N279 := Fr.app N277 N278q
                rw [show (own_f2 w_IMPLICIT w_TABLE (1 : Int32) w_NEXT_KEY w_GAP w_RECORD w_IMPLICIT) = (0 : Int32) from by first | rfl | decide | simp [own_f2, ne_NEXT_KEY_IMPLICIT.symm, ne_TABLE_IMPLICIT, ne_TABLE_IMPLICIT.symm, ne_TABLE_RECORD]] at hv278
                subst hv278
                obtain ⟨v280, _, ⟨T280, L280, k280, n280⟩, -, X280, ⟨Lc280, hQ280, l280, y280, z280⟩, st280⟩ := Jvm.LawKit.callS X278 hx (y := (⟨"com/example/kerb/kerb/txn/LockKindCoversPinLaw", "expected", "(II)Z"⟩ : MethodName)) hown (mvT hZ (hw _ (List.mem_of_getElem? (i := 19) rfl))) (mvT hZ (hw _ (List.mem_of_getElem? (i := 20) rfl))) (mvT hZ (hw _ (List.mem_of_getElem? (i := 3) rfl))) (mvT hZ (hw _ (List.mem_of_getElem? (i := 21) rfl))) (by decide) (backOf (W := 1) (own_rm3 l Z a0 hw [] (4 : Int32) (1 : Int32) h0 n0 Z0) hZ (hw _ (List.mem_of_getElem? (i := 21) rfl)) (hw _ (List.mem_of_getElem? (i := 3) rfl)) (by decide) (by decide)) (g := (mkF m 37 #[.val (.int p1), .val (.int p2), .val (.int (4 : Int32)), .val (.int (1 : Int32)), .val (.ref w_IMPLICIT), .val (.ref w_TABLE)] [(.int (1 : Int32)), (.int (4 : Int32)), (.int (0 : Int32))])) rfl (by rw [hml]; rfl) (argsL := [(.int (4 : Int32)), (.int (1 : Int32))]) (rest := [(.int (0 : Int32))]) (lenOf own_pd95 rfl) rfl (by show 2 * 0 + _ ≤ _; exact Nat.le_of_eq rfl) (hb hby at_37) (fun _ _ => ⟨rfl, e278, (by decide : 0 + 0 ≤ _), (by decide : 0 + 0 ≤ _)⟩)
                dsimp only [Pt.U, Pt.locs, Pt.cells, Pt.slots] at X280 l280 y280 z280 st280 hQ280
                subst l280 y280 z280
                obtain ⟨hv280, N280q, e280⟩ := hQ280
                have N281 := Fr.app N279 N280q
                rw [show (own_f3 (4 : Int32) (1 : Int32)) = (0 : Int32) from by first | rfl | decide | simp [own_f3]] at hv280
                subst hv280
                obtain ⟨fs, hr, hrun, hended, hW, hsame⟩ := X280.leave (v := some (.int (1 : Int32))) (fun h => by rw [Bd.returns] at h; cases h)
                refine ⟨_, _, k273 _ ?_, hrun, hended, _, _, rfl, ?_, ⟨_, rfl⟩, hW, hsame.mono (by decide) (by decide)⟩
                · show Steps p.tables e below (s₁.setTop (mkF m 15 #[.val (.int p1), .val (.int p2), .val (.int (4 : Int32)), .unset, .unset, .unset] [(.int (1 : Int32))])) _
                  refine XS.istoreN X0.here hx rfl (hb hby at_15) rfl (l' := #[.val (.int p1), .val (.int p2), .val (.int (4 : Int32)), .val (.int (1 : Int32)), .unset, .unset]) rfl ?_
                  show Steps p.tables e below (s₁.setTop (mkF m 16 #[.val (.int p1), .val (.int p2), .val (.int (4 : Int32)), .val (.int (1 : Int32)), .unset, .unset] [])) _
                  refine XS.iloadN X0.here hx rfl (hb hby at_16) rfl ?_
                  show Steps p.tables e below (s₁.setTop (mkF m 17 #[.val (.int p1), .val (.int p2), .val (.int (4 : Int32)), .val (.int (1 : Int32)), .unset, .unset] [(.int (4 : Int32))])) _
                  refine st274 _ ?_
                  show Steps p.tables e below (T274.setTop (mkF m 20 #[.val (.int p1), .val (.int p2), .val (.int (4 : Int32)), .val (.int (1 : Int32)), .unset, .unset] [(.ref w_IMPLICIT)])) _
                  refine XS.astore X274.here hx rfl (hb hby at_20) rfl rfl (l' := #[.val (.int p1), .val (.int p2), .val (.int (4 : Int32)), .val (.int (1 : Int32)), .val (.ref w_IMPLICIT), .unset]) rfl ?_
                  show Steps p.tables e below (T274.setTop (mkF m 22 #[.val (.int p1), .val (.int p2), .val (.int (4 : Int32)), .val (.int (1 : Int32)), .val (.ref w_IMPLICIT), .unset] [])) _
                  refine XS.iloadN X274.here hx rfl (hb hby at_22) rfl ?_
                  show Steps p.tables e below (T274.setTop (mkF m 23 #[.val (.int p1), .val (.int p2), .val (.int (4 : Int32)), .val (.int (1 : Int32)), .val (.ref w_IMPLICIT), .unset] [(.int (1 : Int32))])) _
                  refine st276 _ ?_
                  show Steps p.tables e below (T276.setTop (mkF m 26 #[.val (.int p1), .val (.int p2), .val (.int (4 : Int32)), .val (.int (1 : Int32)), .val (.ref w_IMPLICIT), .unset] [(.ref w_TABLE)])) _
                  refine XS.astore X276.here hx rfl (hb hby at_26) rfl rfl (l' := #[.val (.int p1), .val (.int p2), .val (.int (4 : Int32)), .val (.int (1 : Int32)), .val (.ref w_IMPLICIT), .val (.ref w_TABLE)]) rfl ?_
                  show Steps p.tables e below (T276.setTop (mkF m 28 #[.val (.int p1), .val (.int p2), .val (.int (4 : Int32)), .val (.int (1 : Int32)), .val (.ref w_IMPLICIT), .val (.ref w_TABLE)] [])) _
                  refine XS.aload X276.here hx rfl (hb hby at_28) rfl rfl ?_
                  show Steps p.tables e below (T276.setTop (mkF m 30 #[.val (.int p1), .val (.int p2), .val (.int (4 : Int32)), .val (.int (1 : Int32)), .val (.ref w_IMPLICIT), .val (.ref w_TABLE)] [(.ref w_IMPLICIT)])) _
                  refine XS.aload X276.here hx rfl (hb hby at_30) rfl rfl ?_
                  show Steps p.tables e below (T276.setTop (mkF m 32 #[.val (.int p1), .val (.int p2), .val (.int (4 : Int32)), .val (.int (1 : Int32)), .val (.ref w_IMPLICIT), .val (.ref w_TABLE)] [(.ref w_TABLE), (.ref w_IMPLICIT)])) _
                  refine st278.trans ?_
                  show Steps p.tables e below (T278.setTop (mkF m 35 #[.val (.int p1), .val (.int p2), .val (.int (4 : Int32)), .val (.int (1 : Int32)), .val (.ref w_IMPLICIT), .val (.ref w_TABLE)] [(.int (0 : Int32))])) _
                  refine XS.iloadN X278.here hx rfl (hb hby at_35) rfl ?_
                  show Steps p.tables e below (T278.setTop (mkF m 36 #[.val (.int p1), .val (.int p2), .val (.int (4 : Int32)), .val (.int (1 : Int32)), .val (.ref w_IMPLICIT), .val (.ref w_TABLE)] [(.int (4 : Int32)), (.int (0 : Int32))])) _
                  refine XS.iloadN X278.here hx rfl (hb hby at_36) rfl ?_
                  show Steps p.tables e below (T278.setTop (mkF m 37 #[.val (.int p1), .val (.int p2), .val (.int (4 : Int32)), .val (.int (1 : Int32)), .val (.ref w_IMPLICIT), .val (.ref w_TABLE)] [(.int (1 : Int32)), (.int (4 : Int32)), (.int (0 : Int32))])) _
                  refine st280 _ ?_
                  show Steps p.tables e below (T280.setTop (mkF m 40 #[.val (.int p1), .val (.int p2), .val (.int (4 : Int32)), .val (.int (1 : Int32)), .val (.ref w_IMPLICIT), .val (.ref w_TABLE)] [(.int (0 : Int32)), (.int (0 : Int32))])) _
                  refine XS.icmpNo X280.here hx rfl (hb hby at_40) rfl (teq (by decide : (0 : Int32) = (0 : Int32))).2 ?_
                  show Steps p.tables e below (T280.setTop (mkF m 43 #[.val (.int p1), .val (.int p2), .val (.int (4 : Int32)), .val (.int (1 : Int32)), .val (.ref w_IMPLICIT), .val (.ref w_TABLE)] [])) _
                  refine XS.iconst X280.here hx rfl (hb hby at_43) ?_
                  show Steps p.tables e below (T280.setTop (mkF m 44 #[.val (.int p1), .val (.int p2), .val (.int (4 : Int32)), .val (.int (1 : Int32)), .val (.ref w_IMPLICIT), .val (.ref w_TABLE)] [(.int (1 : Int32))])) _
                  refine XS.goto X280.here hx rfl (pc0 := 44) (pc' := 48) rfl (hb hby at_44) (by decide) (by decide) ?_
                  show Steps p.tables e below (T280.setTop (mkF m 48 #[.val (.int p1), .val (.int p2), .val (.int (4 : Int32)), .val (.int (1 : Int32)), .val (.ref w_IMPLICIT), .val (.ref w_TABLE)] [(.int (1 : Int32))])) _
                  exact retN X280 hx (t := .boolean) Bd.returns (by simp) (hb hby at_48) hr
                · show own_Q0 Z p1 p2 w_INTENTION w_TABLE w_NEXT_KEY w_RECORD w_IMPLICIT w_GAP w_INSERT_INTENTION h0 n0 _ T280.heap _
                  rw [e280]
                  exact ⟨(by rw [own_f0, if_neg hc1, if_neg hc9, if_neg hc17, if_neg hc25, if_pos hc33, if_neg hc34, if_pos hc35]), N281⟩
              ·
                by_cases hc36 : ((p2 &&& (2147483647 : Int32)) - ((p2 &&& (2147483647 : Int32)) / (7 : Int32)) * (7 : Int32)) = (2 : Int32)
                ·
                  have k282 : ∀ t, Steps p.tables e below (s₁.setTop (mkF m 15 #[.val (.int p1), .val (.int p2), .val (.int (4 : Int32)), .unset, .unset, .unset] [(.int (2 : Int32))])) t → Steps p.tables e below (s₁.setTop (entryFrame m #[(.int p1), (.int p2)] maxLocals)) t := by
                    intro t kt
                    refine k263 t ?_
                    rw [hc36]
                    exact kt
                  obtain ⟨v283, _, ⟨T283, L283, k283, n283⟩, -, X283, ⟨Lc283, hQ283, l283, y283, z283⟩, st283⟩ := Jvm.LawKit.callS X0 hx (y := (⟨"com/example/kerb/kerb/txn/LockKindCoversPinLaw", "pick", "(I)Lcom/example/kerb/kerb/txn/LockKind;"⟩ : MethodName)) hown (mvT hZ (hw _ (List.mem_of_getElem? (i := 1) rfl))) (mvT hZ (hw _ (List.mem_of_getElem? (i := 2) rfl))) (mvT hZ (hw _ (List.mem_of_getElem? (i := 3) rfl))) (mvT hZ (hw _ (List.mem_of_getElem? (i := 4) rfl))) (by decide) (backOf (W := 0) (own_rm1 l Z a0 hw [] (4 : Int32) w_INTENTION w_TABLE w_NEXT_KEY w_RECORD w_IMPLICIT w_GAP w_INSERT_INTENTION h0 n0 Z0 S_INTENTION S_TABLE S_NEXT_KEY S_RECORD S_IMPLICIT S_GAP S_INSERT_INTENTION) hZ (hw _ (List.mem_of_getElem? (i := 4) rfl)) (hw _ (List.mem_of_getElem? (i := 3) rfl)) (by decide) (by decide)) (g := (mkF m 17 #[.val (.int p1), .val (.int p2), .val (.int (4 : Int32)), .val (.int (2 : Int32)), .unset, .unset] [(.int (4 : Int32))])) rfl (by rw [hml]; rfl) (argsL := [(.int (4 : Int32))]) (rest := []) (lenOf own_pd93 rfl) rfl (by show 2 * 0 + _ ≤ _; exact Nat.le_of_eq rfl) (hb hby at_17) (fun _ _ => ⟨rfl, e0, (by decide : 0 + 0 ≤ _), (by decide : 0 + 0 ≤ _)⟩)
                  dsimp only [Pt.U, Pt.locs, Pt.cells, Pt.slots] at X283 l283 y283 z283 st283 hQ283
                  subst l283 y283 z283
                  obtain ⟨hv283, N283q, e283⟩ := hQ283
                  have N284 := Fr.app N0 N283q
                  rw [show (own_f1 (4 : Int32) w_INTENTION w_TABLE w_NEXT_KEY w_RECORD w_IMPLICIT w_GAP w_INSERT_INTENTION) = w_IMPLICIT from by first | rfl | decide | simp [own_f1]] at hv283
                  subst hv283
                  obtain ⟨v285, _, ⟨T285, L285, k285, n285⟩, -, X285, ⟨Lc285, hQ285, l285, y285, z285⟩, st285⟩ := Jvm.LawKit.callS X283 hx (y := (⟨"com/example/kerb/kerb/txn/LockKindCoversPinLaw", "pick", "(I)Lcom/example/kerb/kerb/txn/LockKind;"⟩ : MethodName)) hown (mvT hZ (hw _ (List.mem_of_getElem? (i := 1) rfl))) (mvT hZ (hw _ (List.mem_of_getElem? (i := 2) rfl))) (mvT hZ (hw _ (List.mem_of_getElem? (i := 3) rfl))) (mvT hZ (hw _ (List.mem_of_getElem? (i := 4) rfl))) (by decide) (backOf (W := 0) (own_rm1 l Z a0 hw [] (2 : Int32) w_INTENTION w_TABLE w_NEXT_KEY w_RECORD w_IMPLICIT w_GAP w_INSERT_INTENTION h0 n0 Z0 S_INTENTION S_TABLE S_NEXT_KEY S_RECORD S_IMPLICIT S_GAP S_INSERT_INTENTION) hZ (hw _ (List.mem_of_getElem? (i := 4) rfl)) (hw _ (List.mem_of_getElem? (i := 3) rfl)) (by decide) (by decide)) (g := (mkF m 23 #[.val (.int p1), .val (.int p2), .val (.int (4 : Int32)), .val (.int (2 : Int32)), .val (.ref w_IMPLICIT), .unset] [(.int (2 : Int32))])) rfl (by rw [hml]; rfl) (argsL := [(.int (2 : Int32))]) (rest := []) (lenOf own_pd93 rfl) rfl (by show 2 * 0 + _ ≤ _; exact Nat.le_of_eq rfl) (hb hby at_23) (fun _ _ => ⟨rfl, e283, (by decide : 0 + 0 ≤ _), (by decide : 0 + 0 ≤ _)⟩)
                  dsimp only [Pt.U, Pt.locs, Pt.cells, Pt.slots] at X285 l285 y285 z285 st285 hQ285
                  subst l285 y285 z285
                  obtain ⟨hv285, N285q, e285⟩ := hQ285
                  have N286 := Fr.app N284 N285q
                  rw [show (own_f1 (2 : Int32) w_INTENTION w_TABLE w_NEXT_KEY w_RECORD w_IMPLICIT w_GAP w_INSERT_INTENTION) = w_NEXT_KEY from by first | rfl | decide | simp [own_f1]] at hv285
                  subst hv285
                  obtain ⟨cq287, kq287, q287a, q287b, q287c⟩ := isOf hZ e285 E_w_IMPLICIT
                  obtain ⟨v287, _, ⟨T287, L287, k287, n287⟩, -, X287, ⟨Lc287, hQ287, l287, y287, z287⟩, st287⟩ := X285.virtualBack hx (y := (⟨"com/example/kerb/kerb/txn/LockKind", "covers", "(Lcom/example/kerb/kerb/txn/LockKind;)Z"⟩ : MethodName)) (z := (⟨"com/example/kerb/kerb/txn/LockKind", "covers", "(Lcom/example/kerb/kerb/txn/LockKind;)Z"⟩ : MethodName)) hown (mvT hZ (hw _ (List.mem_of_getElem? (i := 10) rfl))) (mvT hZ (hw _ (List.mem_of_getElem? (i := 11) rfl))) (notFace_of_selects (args := #[]) (mvT hZ (hw _ (List.mem_of_getElem? (i := 13) rfl)))) (mvT hZ (hw _ (List.mem_of_getElem? (i := 13) rfl))) (mvT hZ (hw _ (List.mem_of_getElem? (i := 12) rfl))) (by decide) (backOf (W := 0) (own_rm2 l Z a0 hw [] w_IMPLICIT w_NEXT_KEY (1 : Int32) w_NEXT_KEY w_GAP w_RECORD w_IMPLICIT h0 n0 Z0 F_coversRecord_w_IMPLICIT S_NEXT_KEY S_GAP S_RECORD S_IMPLICIT) hZ (hw _ (List.mem_of_getElem? (i := 14) rfl)) (hw _ (List.mem_of_getElem? (i := 6) rfl)) (by decide) (by decide)) q287a q287c (g := (mkF m 32 #[.val (.int p1), .val (.int p2), .val (.int (4 : Int32)), .val (.int (2 : Int32)), .val (.ref w_IMPLICIT), .val (.ref w_NEXT_KEY)] [(.ref w_NEXT_KEY), (.ref w_IMPLICIT)])) rfl (by rw [hml]; rfl) (Steps.refl _) (argsL := [(.ref w_NEXT_KEY)]) (rest := []) (lenOf own_pd94 rfl) rfl (by show 2 * 0 + _ ≤ _; exact Nat.le_of_eq rfl) (hb hby at_32) (fun _ _ => ⟨rfl, e285, (by decide : 0 + 0 ≤ _), (by decide : 0 + 0 ≤ _)⟩)
                  dsimp only [Pt.U, Pt.locs, Pt.cells, Pt.slots] at X287 l287 y287 z287 st287 hQ287
                  subst l287 y287 z287
                  obtain ⟨hv287, N287q, e287⟩ := hQ287
                  have N288 := Fr.app N286 N287q
                  rw [show (own_f2 w_IMPLICIT w_NEXT_KEY (1 : Int32) w_NEXT_KEY w_GAP w_RECORD w_IMPLICIT) = (0 : Int32) from by first | rfl | decide | simp [own_f2, ne_NEXT_KEY_IMPLICIT, ne_NEXT_KEY_IMPLICIT.symm, ne_NEXT_KEY_RECORD]] at hv287
                  subst hv287
                  obtain ⟨v289, _, ⟨T289, L289, k289, n289⟩, -, X289, ⟨Lc289, hQ289, l289, y289, z289⟩, st289⟩ := Jvm.LawKit.callS X287 hx (y := (⟨"com/example/kerb/kerb/txn/LockKindCoversPinLaw", "expected", "(II)Z"⟩ : MethodName)) hown (mvT hZ (hw _ (List.mem_of_getElem? (i := 19) rfl))) (mvT hZ (hw _ (List.mem_of_getElem? (i := 20) rfl))) (mvT hZ (hw _ (List.mem_of_getElem? (i := 3) rfl))) (mvT hZ (hw _ (List.mem_of_getElem? (i := 21) rfl))) (by decide) (backOf (W := 1) (own_rm3 l Z a0 hw [] (4 : Int32) (2 : Int32) h0 n0 Z0) hZ (hw _ (List.mem_of_getElem? (i := 21) rfl)) (hw _ (List.mem_of_getElem? (i := 3) rfl)) (by decide) (by decide)) (g := (mkF m 37 #[.val (.int p1), .val (.int p2), .val (.int (4 : Int32)), .val (.int (2 : Int32)), .val (.ref w_IMPLICIT), .val (.ref w_NEXT_KEY)] [(.int (2 : Int32)), (.int (4 : Int32)), (.int (0 : Int32))])) rfl (by rw [hml]; rfl) (argsL := [(.int (4 : Int32)), (.int (2 : Int32))]) (rest := [(.int (0 : Int32))]) (lenOf own_pd95 rfl) rfl (by show 2 * 0 + _ ≤ _; exact Nat.le_of_eq rfl) (hb hby at_37) (fun _ _ => ⟨rfl, e287, (by decide : 0 + 0 ≤ _), (by decide : 0 + 0 ≤ _)⟩)
                  dsimp only [Pt.U, Pt.locs, Pt.cells, Pt.slots] at X289 l289 y289 z289 st289 hQ289
                  subst l289 y289 z289
                  obtain ⟨hv289, N289q, e289⟩ := hQ289
                  have N290 := Fr.app N288 N289q
                  rw [show (own_f3 (4 : Int32) (2 : Int32)) = (0 : Int32) from by first | rfl | decide | simp [own_f3]] at hv289
                  subst hv289
                  obtain ⟨fs, hr, hrun, hended, hW, hsame⟩ := X289.leave (v := some (.int (1 : Int32))) (fun h => by rw [Bd.returns] at h; cases h)
                  refine ⟨_, _, k282 _ ?_, hrun, hended, _, _, rfl, ?_, ⟨_, rfl⟩, hW, hsame.mono (by decide) (by decide)⟩
                  · show Steps p.tables e below (s₁.setTop (mkF m 15 #[.val (.int p1), .val (.int p2), .val (.int (4 : Int32)), .unset, .unset, .unset] [(.int (2 : Int32))])) _
                    refine XS.istoreN X0.here hx rfl (hb hby at_15) rfl (l' := #[.val (.int p1), .val (.int p2), .val (.int (4 : Int32)), .val (.int (2 : Int32)), .unset, .unset]) rfl ?_
                    show Steps p.tables e below (s₁.setTop (mkF m 16 #[.val (.int p1), .val (.int p2), .val (.int (4 : Int32)), .val (.int (2 : Int32)), .unset, .unset] [])) _
                    refine XS.iloadN X0.here hx rfl (hb hby at_16) rfl ?_
                    show Steps p.tables e below (s₁.setTop (mkF m 17 #[.val (.int p1), .val (.int p2), .val (.int (4 : Int32)), .val (.int (2 : Int32)), .unset, .unset] [(.int (4 : Int32))])) _
                    refine st283 _ ?_
                    show Steps p.tables e below (T283.setTop (mkF m 20 #[.val (.int p1), .val (.int p2), .val (.int (4 : Int32)), .val (.int (2 : Int32)), .unset, .unset] [(.ref w_IMPLICIT)])) _
                    refine XS.astore X283.here hx rfl (hb hby at_20) rfl rfl (l' := #[.val (.int p1), .val (.int p2), .val (.int (4 : Int32)), .val (.int (2 : Int32)), .val (.ref w_IMPLICIT), .unset]) rfl ?_
                    show Steps p.tables e below (T283.setTop (mkF m 22 #[.val (.int p1), .val (.int p2), .val (.int (4 : Int32)), .val (.int (2 : Int32)), .val (.ref w_IMPLICIT), .unset] [])) _
                    refine XS.iloadN X283.here hx rfl (hb hby at_22) rfl ?_
                    show Steps p.tables e below (T283.setTop (mkF m 23 #[.val (.int p1), .val (.int p2), .val (.int (4 : Int32)), .val (.int (2 : Int32)), .val (.ref w_IMPLICIT), .unset] [(.int (2 : Int32))])) _
                    refine st285 _ ?_
                    show Steps p.tables e below (T285.setTop (mkF m 26 #[.val (.int p1), .val (.int p2), .val (.int (4 : Int32)), .val (.int (2 : Int32)), .val (.ref w_IMPLICIT), .unset] [(.ref w_NEXT_KEY)])) _
                    refine XS.astore X285.here hx rfl (hb hby at_26) rfl rfl (l' := #[.val (.int p1), .val (.int p2), .val (.int (4 : Int32)), .val (.int (2 : Int32)), .val (.ref w_IMPLICIT), .val (.ref w_NEXT_KEY)]) rfl ?_
                    show Steps p.tables e below (T285.setTop (mkF m 28 #[.val (.int p1), .val (.int p2), .val (.int (4 : Int32)), .val (.int (2 : Int32)), .val (.ref w_IMPLICIT), .val (.ref w_NEXT_KEY)] [])) _
                    refine XS.aload X285.here hx rfl (hb hby at_28) rfl rfl ?_
                    show Steps p.tables e below (T285.setTop (mkF m 30 #[.val (.int p1), .val (.int p2), .val (.int (4 : Int32)), .val (.int (2 : Int32)), .val (.ref w_IMPLICIT), .val (.ref w_NEXT_KEY)] [(.ref w_IMPLICIT)])) _
                    refine XS.aload X285.here hx rfl (hb hby at_30) rfl rfl ?_
                    show Steps p.tables e below (T285.setTop (mkF m 32 #[.val (.int p1), .val (.int p2), .val (.int (4 : Int32)), .val (.int (2 : Int32)), .val (.ref w_IMPLICIT), .val (.ref w_NEXT_KEY)] [(.ref w_NEXT_KEY), (.ref w_IMPLICIT)])) _
                    refine st287.trans ?_
                    show Steps p.tables e below (T287.setTop (mkF m 35 #[.val (.int p1), .val (.int p2), .val (.int (4 : Int32)), .val (.int (2 : Int32)), .val (.ref w_IMPLICIT), .val (.ref w_NEXT_KEY)] [(.int (0 : Int32))])) _
                    refine XS.iloadN X287.here hx rfl (hb hby at_35) rfl ?_
                    show Steps p.tables e below (T287.setTop (mkF m 36 #[.val (.int p1), .val (.int p2), .val (.int (4 : Int32)), .val (.int (2 : Int32)), .val (.ref w_IMPLICIT), .val (.ref w_NEXT_KEY)] [(.int (4 : Int32)), (.int (0 : Int32))])) _
                    refine XS.iloadN X287.here hx rfl (hb hby at_36) rfl ?_
                    show Steps p.tables e below (T287.setTop (mkF m 37 #[.val (.int p1), .val (.int p2), .val (.int (4 : Int32)), .val (.int (2 : Int32)), .val (.ref w_IMPLICIT), .val (.ref w_NEXT_KEY)] [(.int (2 : Int32)), (.int (4 : Int32)), (.int (0 : Int32))])) _
                    refine st289 _ ?_
                    show Steps p.tables e below (T289.setTop (mkF m 40 #[.val (.int p1), .val (.int p2), .val (.int (4 : Int32)), .val (.int (2 : Int32)), .val (.ref w_IMPLICIT), .val (.ref w_NEXT_KEY)] [(.int (0 : Int32)), (.int (0 : Int32))])) _
                    refine XS.icmpNo X289.here hx rfl (hb hby at_40) rfl (teq (by decide : (0 : Int32) = (0 : Int32))).2 ?_
                    show Steps p.tables e below (T289.setTop (mkF m 43 #[.val (.int p1), .val (.int p2), .val (.int (4 : Int32)), .val (.int (2 : Int32)), .val (.ref w_IMPLICIT), .val (.ref w_NEXT_KEY)] [])) _
                    refine XS.iconst X289.here hx rfl (hb hby at_43) ?_
                    show Steps p.tables e below (T289.setTop (mkF m 44 #[.val (.int p1), .val (.int p2), .val (.int (4 : Int32)), .val (.int (2 : Int32)), .val (.ref w_IMPLICIT), .val (.ref w_NEXT_KEY)] [(.int (1 : Int32))])) _
                    refine XS.goto X289.here hx rfl (pc0 := 44) (pc' := 48) rfl (hb hby at_44) (by decide) (by decide) ?_
                    show Steps p.tables e below (T289.setTop (mkF m 48 #[.val (.int p1), .val (.int p2), .val (.int (4 : Int32)), .val (.int (2 : Int32)), .val (.ref w_IMPLICIT), .val (.ref w_NEXT_KEY)] [(.int (1 : Int32))])) _
                    exact retN X289 hx (t := .boolean) Bd.returns (by simp) (hb hby at_48) hr
                  · show own_Q0 Z p1 p2 w_INTENTION w_TABLE w_NEXT_KEY w_RECORD w_IMPLICIT w_GAP w_INSERT_INTENTION h0 n0 _ T289.heap _
                    rw [e289]
                    exact ⟨(by rw [own_f0, if_neg hc1, if_neg hc9, if_neg hc17, if_neg hc25, if_pos hc33, if_neg hc34, if_neg hc35, if_pos hc36]), N290⟩
                ·
                  by_cases hc37 : ((p2 &&& (2147483647 : Int32)) - ((p2 &&& (2147483647 : Int32)) / (7 : Int32)) * (7 : Int32)) = (3 : Int32)
                  ·
                    have k291 : ∀ t, Steps p.tables e below (s₁.setTop (mkF m 15 #[.val (.int p1), .val (.int p2), .val (.int (4 : Int32)), .unset, .unset, .unset] [(.int (3 : Int32))])) t → Steps p.tables e below (s₁.setTop (entryFrame m #[(.int p1), (.int p2)] maxLocals)) t := by
                      intro t kt
                      refine k263 t ?_
                      rw [hc37]
                      exact kt
                    obtain ⟨v292, _, ⟨T292, L292, k292, n292⟩, -, X292, ⟨Lc292, hQ292, l292, y292, z292⟩, st292⟩ := Jvm.LawKit.callS X0 hx (y := (⟨"com/example/kerb/kerb/txn/LockKindCoversPinLaw", "pick", "(I)Lcom/example/kerb/kerb/txn/LockKind;"⟩ : MethodName)) hown (mvT hZ (hw _ (List.mem_of_getElem? (i := 1) rfl))) (mvT hZ (hw _ (List.mem_of_getElem? (i := 2) rfl))) (mvT hZ (hw _ (List.mem_of_getElem? (i := 3) rfl))) (mvT hZ (hw _ (List.mem_of_getElem? (i := 4) rfl))) (by decide) (backOf (W := 0) (own_rm1 l Z a0 hw [] (4 : Int32) w_INTENTION w_TABLE w_NEXT_KEY w_RECORD w_IMPLICIT w_GAP w_INSERT_INTENTION h0 n0 Z0 S_INTENTION S_TABLE S_NEXT_KEY S_RECORD S_IMPLICIT S_GAP S_INSERT_INTENTION) hZ (hw _ (List.mem_of_getElem? (i := 4) rfl)) (hw _ (List.mem_of_getElem? (i := 3) rfl)) (by decide) (by decide)) (g := (mkF m 17 #[.val (.int p1), .val (.int p2), .val (.int (4 : Int32)), .val (.int (3 : Int32)), .unset, .unset] [(.int (4 : Int32))])) rfl (by rw [hml]; rfl) (argsL := [(.int (4 : Int32))]) (rest := []) (lenOf own_pd93 rfl) rfl (by show 2 * 0 + _ ≤ _; exact Nat.le_of_eq rfl) (hb hby at_17) (fun _ _ => ⟨rfl, e0, (by decide : 0 + 0 ≤ _), (by decide : 0 + 0 ≤ _)⟩)
                    dsimp only [Pt.U, Pt.locs, Pt.cells, Pt.slots] at X292 l292 y292 z292 st292 hQ292
                    subst l292 y292 z292
                    obtain ⟨hv292, N292q, e292⟩ := hQ292
                    have N293 := Fr.app N0 N292q
                    rw [show (own_f1 (4 : Int32) w_INTENTION w_TABLE w_NEXT_KEY w_RECORD w_IMPLICIT w_GAP w_INSERT_INTENTION) = w_IMPLICIT from by first | rfl | decide | simp [own_f1]] at hv292
                    subst hv292
                    obtain ⟨v294, _, ⟨T294, L294, k294, n294⟩, -, X294, ⟨Lc294, hQ294, l294, y294, z294⟩, st294⟩ := Jvm.LawKit.callS X292 hx (y := (⟨"com/example/kerb/kerb/txn/LockKindCoversPinLaw", "pick", "(I)Lcom/example/kerb/kerb/txn/LockKind;"⟩ : MethodName)) hown (mvT hZ (hw _ (List.mem_of_getElem? (i := 1) rfl))) (mvT hZ (hw _ (List.mem_of_getElem? (i := 2) rfl))) (mvT hZ (hw _ (List.mem_of_getElem? (i := 3) rfl))) (mvT hZ (hw _ (List.mem_of_getElem? (i := 4) rfl))) (by decide) (backOf (W := 0) (own_rm1 l Z a0 hw [] (3 : Int32) w_INTENTION w_TABLE w_NEXT_KEY w_RECORD w_IMPLICIT w_GAP w_INSERT_INTENTION h0 n0 Z0 S_INTENTION S_TABLE S_NEXT_KEY S_RECORD S_IMPLICIT S_GAP S_INSERT_INTENTION) hZ (hw _ (List.mem_of_getElem? (i := 4) rfl)) (hw _ (List.mem_of_getElem? (i := 3) rfl)) (by decide) (by decide)) (g := (mkF m 23 #[.val (.int p1), .val (.int p2), .val (.int (4 : Int32)), .val (.int (3 : Int32)), .val (.ref w_IMPLICIT), .unset] [(.int (3 : Int32))])) rfl (by rw [hml]; rfl) (argsL := [(.int (3 : Int32))]) (rest := []) (lenOf own_pd93 rfl) rfl (by show 2 * 0 + _ ≤ _; exact Nat.le_of_eq rfl) (hb hby at_23) (fun _ _ => ⟨rfl, e292, (by decide : 0 + 0 ≤ _), (by decide : 0 + 0 ≤ _)⟩)
                    dsimp only [Pt.U, Pt.locs, Pt.cells, Pt.slots] at X294 l294 y294 z294 st294 hQ294
                    subst l294 y294 z294
                    obtain ⟨hv294, N294q, e294⟩ := hQ294
                    have N295 := Fr.app N293 N294q
                    rw [show (own_f1 (3 : Int32) w_INTENTION w_TABLE w_NEXT_KEY w_RECORD w_IMPLICIT w_GAP w_INSERT_INTENTION) = w_RECORD from by first | rfl | decide | simp [own_f1]] at hv294
                    subst hv294
                    obtain ⟨cq296, kq296, q296a, q296b, q296c⟩ := isOf hZ e294 E_w_IMPLICIT
                    obtain ⟨v296, _, ⟨T296, L296, k296, n296⟩, -, X296, ⟨Lc296, hQ296, l296, y296, z296⟩, st296⟩ := X294.virtualBack hx (y := (⟨"com/example/kerb/kerb/txn/LockKind", "covers", "(Lcom/example/kerb/kerb/txn/LockKind;)Z"⟩ : MethodName)) (z := (⟨"com/example/kerb/kerb/txn/LockKind", "covers", "(Lcom/example/kerb/kerb/txn/LockKind;)Z"⟩ : MethodName)) hown (mvT hZ (hw _ (List.mem_of_getElem? (i := 10) rfl))) (mvT hZ (hw _ (List.mem_of_getElem? (i := 11) rfl))) (notFace_of_selects (args := #[]) (mvT hZ (hw _ (List.mem_of_getElem? (i := 13) rfl)))) (mvT hZ (hw _ (List.mem_of_getElem? (i := 13) rfl))) (mvT hZ (hw _ (List.mem_of_getElem? (i := 12) rfl))) (by decide) (backOf (W := 0) (own_rm2 l Z a0 hw [] w_IMPLICIT w_RECORD (1 : Int32) w_NEXT_KEY w_GAP w_RECORD w_IMPLICIT h0 n0 Z0 F_coversRecord_w_IMPLICIT S_NEXT_KEY S_GAP S_RECORD S_IMPLICIT) hZ (hw _ (List.mem_of_getElem? (i := 14) rfl)) (hw _ (List.mem_of_getElem? (i := 6) rfl)) (by decide) (by decide)) q296a q296c (g := (mkF m 32 #[.val (.int p1), .val (.int p2), .val (.int (4 : Int32)), .val (.int (3 : Int32)), .val (.ref w_IMPLICIT), .val (.ref w_RECORD)] [(.ref w_RECORD), (.ref w_IMPLICIT)])) rfl (by rw [hml]; rfl) (Steps.refl _) (argsL := [(.ref w_RECORD)]) (rest := []) (lenOf own_pd94 rfl) rfl (by show 2 * 0 + _ ≤ _; exact Nat.le_of_eq rfl) (hb hby at_32) (fun _ _ => ⟨rfl, e294, (by decide : 0 + 0 ≤ _), (by decide : 0 + 0 ≤ _)⟩)
                    dsimp only [Pt.U, Pt.locs, Pt.cells, Pt.slots] at X296 l296 y296 z296 st296 hQ296
                    subst l296 y296 z296
                    obtain ⟨hv296, N296q, e296⟩ := hQ296
                    have N297 := Fr.app N295 N296q
                    rw [show (own_f2 w_IMPLICIT w_RECORD (1 : Int32) w_NEXT_KEY w_GAP w_RECORD w_IMPLICIT) = (1 : Int32) from by first | rfl | decide | simp [own_f2, ne_RECORD_IMPLICIT.symm]] at hv296
                    subst hv296
                    obtain ⟨v298, _, ⟨T298, L298, k298, n298⟩, -, X298, ⟨Lc298, hQ298, l298, y298, z298⟩, st298⟩ := Jvm.LawKit.callS X296 hx (y := (⟨"com/example/kerb/kerb/txn/LockKindCoversPinLaw", "expected", "(II)Z"⟩ : MethodName)) hown (mvT hZ (hw _ (List.mem_of_getElem? (i := 19) rfl))) (mvT hZ (hw _ (List.mem_of_getElem? (i := 20) rfl))) (mvT hZ (hw _ (List.mem_of_getElem? (i := 3) rfl))) (mvT hZ (hw _ (List.mem_of_getElem? (i := 21) rfl))) (by decide) (backOf (W := 1) (own_rm3 l Z a0 hw [] (4 : Int32) (3 : Int32) h0 n0 Z0) hZ (hw _ (List.mem_of_getElem? (i := 21) rfl)) (hw _ (List.mem_of_getElem? (i := 3) rfl)) (by decide) (by decide)) (g := (mkF m 37 #[.val (.int p1), .val (.int p2), .val (.int (4 : Int32)), .val (.int (3 : Int32)), .val (.ref w_IMPLICIT), .val (.ref w_RECORD)] [(.int (3 : Int32)), (.int (4 : Int32)), (.int (1 : Int32))])) rfl (by rw [hml]; rfl) (argsL := [(.int (4 : Int32)), (.int (3 : Int32))]) (rest := [(.int (1 : Int32))]) (lenOf own_pd95 rfl) rfl (by show 2 * 0 + _ ≤ _; exact Nat.le_of_eq rfl) (hb hby at_37) (fun _ _ => ⟨rfl, e296, (by decide : 0 + 0 ≤ _), (by decide : 0 + 0 ≤ _)⟩)
                    dsimp only [Pt.U, Pt.locs, Pt.cells, Pt.slots] at X298 l298 y298 z298 st298 hQ298
                    subst l298 y298 z298
                    obtain ⟨hv298, N298q, e298⟩ := hQ298
                    have N299 := Fr.app N297 N298q
                    rw [show (own_f3 (4 : Int32) (3 : Int32)) = (1 : Int32) from by first | rfl | decide | simp [own_f3]] at hv298
                    subst hv298
                    obtain ⟨fs, hr, hrun, hended, hW, hsame⟩ := X298.leave (v := some (.int (1 : Int32))) (fun h => by rw [Bd.returns] at h; cases h)
                    refine ⟨_, _, k291 _ ?_, hrun, hended, _, _, rfl, ?_, ⟨_, rfl⟩, hW, hsame.mono (by decide) (by decide)⟩
                    · show Steps p.tables e below (s₁.setTop (mkF m 15 #[.val (.int p1), .val (.int p2), .val (.int (4 : Int32)), .unset, .unset, .unset] [(.int (3 : Int32))])) _
                      refine XS.istoreN X0.here hx rfl (hb hby at_15) rfl (l' := #[.val (.int p1), .val (.int p2), .val (.int (4 : Int32)), .val (.int (3 : Int32)), .unset, .unset]) rfl ?_
                      show Steps p.tables e below (s₁.setTop (mkF m 16 #[.val (.int p1), .val (.int p2), .val (.int (4 : Int32)), .val (.int (3 : Int32)), .unset, .unset] [])) _
                      refine XS.iloadN X0.here hx rfl (hb hby at_16) rfl ?_
                      show Steps p.tables e below (s₁.setTop (mkF m 17 #[.val (.int p1), .val (.int p2), .val (.int (4 : Int32)), .val (.int (3 : Int32)), .unset, .unset] [(.int (4 : Int32))])) _
                      refine st292 _ ?_
                      show Steps p.tables e below (T292.setTop (mkF m 20 #[.val (.int p1), .val (.int p2), .val (.int (4 : Int32)), .val (.int (3 : Int32)), .unset, .unset] [(.ref w_IMPLICIT)])) _
                      refine XS.astore X292.here hx rfl (hb hby at_20) rfl rfl (l' := #[.val (.int p1), .val (.int p2), .val (.int (4 : Int32)), .val (.int (3 : Int32)), .val (.ref w_IMPLICIT), .unset]) rfl ?_
                      show Steps p.tables e below (T292.setTop (mkF m 22 #[.val (.int p1), .val (.int p2), .val (.int (4 : Int32)), .val (.int (3 : Int32)), .val (.ref w_IMPLICIT), .unset] [])) _
                      refine XS.iloadN X292.here hx rfl (hb hby at_22) rfl ?_
                      show Steps p.tables e below (T292.setTop (mkF m 23 #[.val (.int p1), .val (.int p2), .val (.int (4 : Int32)), .val (.int (3 : Int32)), .val (.ref w_IMPLICIT), .unset] [(.int (3 : Int32))])) _
                      refine st294 _ ?_
                      show Steps p.tables e below (T294.setTop (mkF m 26 #[.val (.int p1), .val (.int p2), .val (.int (4 : Int32)), .val (.int (3 : Int32)), .val (.ref w_IMPLICIT), .unset] [(.ref w_RECORD)])) _
                      refine XS.astore X294.here hx rfl (hb hby at_26) rfl rfl (l' := #[.val (.int p1), .val (.int p2), .val (.int (4 : Int32)), .val (.int (3 : Int32)), .val (.ref w_IMPLICIT), .val (.ref w_RECORD)]) rfl ?_
                      show Steps p.tables e below (T294.setTop (mkF m 28 #[.val (.int p1), .val (.int p2), .val (.int (4 : Int32)), .val (.int (3 : Int32)), .val (.ref w_IMPLICIT), .val (.ref w_RECORD)] [])) _
                      refine XS.aload X294.here hx rfl (hb hby at_28) rfl rfl ?_
                      show Steps p.tables e below (T294.setTop (mkF m 30 #[.val (.int p1), .val (.int p2), .val (.int (4 : Int32)), .val (.int (3 : Int32)), .val (.ref w_IMPLICIT), .val (.ref w_RECORD)] [(.ref w_IMPLICIT)])) _
                      refine XS.aload X294.here hx rfl (hb hby at_30) rfl rfl ?_
                      show Steps p.tables e below (T294.setTop (mkF m 32 #[.val (.int p1), .val (.int p2), .val (.int (4 : Int32)), .val (.int (3 : Int32)), .val (.ref w_IMPLICIT), .val (.ref w_RECORD)] [(.ref w_RECORD), (.ref w_IMPLICIT)])) _
                      refine st296.trans ?_
                      show Steps p.tables e below (T296.setTop (mkF m 35 #[.val (.int p1), .val (.int p2), .val (.int (4 : Int32)), .val (.int (3 : Int32)), .val (.ref w_IMPLICIT), .val (.ref w_RECORD)] [(.int (1 : Int32))])) _
                      refine XS.iloadN X296.here hx rfl (hb hby at_35) rfl ?_
                      show Steps p.tables e below (T296.setTop (mkF m 36 #[.val (.int p1), .val (.int p2), .val (.int (4 : Int32)), .val (.int (3 : Int32)), .val (.ref w_IMPLICIT), .val (.ref w_RECORD)] [(.int (4 : Int32)), (.int (1 : Int32))])) _
                      refine XS.iloadN X296.here hx rfl (hb hby at_36) rfl ?_
                      show Steps p.tables e below (T296.setTop (mkF m 37 #[.val (.int p1), .val (.int p2), .val (.int (4 : Int32)), .val (.int (3 : Int32)), .val (.ref w_IMPLICIT), .val (.ref w_RECORD)] [(.int (3 : Int32)), (.int (4 : Int32)), (.int (1 : Int32))])) _
                      refine st298 _ ?_
                      show Steps p.tables e below (T298.setTop (mkF m 40 #[.val (.int p1), .val (.int p2), .val (.int (4 : Int32)), .val (.int (3 : Int32)), .val (.ref w_IMPLICIT), .val (.ref w_RECORD)] [(.int (1 : Int32)), (.int (1 : Int32))])) _
                      refine XS.icmpNo X298.here hx rfl (hb hby at_40) rfl (teq (by decide : (1 : Int32) = (1 : Int32))).2 ?_
                      show Steps p.tables e below (T298.setTop (mkF m 43 #[.val (.int p1), .val (.int p2), .val (.int (4 : Int32)), .val (.int (3 : Int32)), .val (.ref w_IMPLICIT), .val (.ref w_RECORD)] [])) _
                      refine XS.iconst X298.here hx rfl (hb hby at_43) ?_
                      show Steps p.tables e below (T298.setTop (mkF m 44 #[.val (.int p1), .val (.int p2), .val (.int (4 : Int32)), .val (.int (3 : Int32)), .val (.ref w_IMPLICIT), .val (.ref w_RECORD)] [(.int (1 : Int32))])) _
                      refine XS.goto X298.here hx rfl (pc0 := 44) (pc' := 48) rfl (hb hby at_44) (by decide) (by decide) ?_
                      show Steps p.tables e below (T298.setTop (mkF m 48 #[.val (.int p1), .val (.int p2), .val (.int (4 : Int32)), .val (.int (3 : Int32)), .val (.ref w_IMPLICIT), .val (.ref w_RECORD)] [(.int (1 : Int32))])) _
                      exact retN X298 hx (t := .boolean) Bd.returns (by simp) (hb hby at_48) hr
                    · show own_Q0 Z p1 p2 w_INTENTION w_TABLE w_NEXT_KEY w_RECORD w_IMPLICIT w_GAP w_INSERT_INTENTION h0 n0 _ T298.heap _
                      rw [e298]
                      exact ⟨(by rw [own_f0, if_neg hc1, if_neg hc9, if_neg hc17, if_neg hc25, if_pos hc33, if_neg hc34, if_neg hc35, if_neg hc36, if_pos hc37]), N299⟩
                  ·
                    by_cases hc38 : ((p2 &&& (2147483647 : Int32)) - ((p2 &&& (2147483647 : Int32)) / (7 : Int32)) * (7 : Int32)) = (4 : Int32)
                    ·
                      have k300 : ∀ t, Steps p.tables e below (s₁.setTop (mkF m 15 #[.val (.int p1), .val (.int p2), .val (.int (4 : Int32)), .unset, .unset, .unset] [(.int (4 : Int32))])) t → Steps p.tables e below (s₁.setTop (entryFrame m #[(.int p1), (.int p2)] maxLocals)) t := by
                        intro t kt
                        refine k263 t ?_
                        rw [hc38]
                        exact kt
                      obtain ⟨v301, _, ⟨T301, L301, k301, n301⟩, -, X301, ⟨Lc301, hQ301, l301, y301, z301⟩, st301⟩ := Jvm.LawKit.callS X0 hx (y := (⟨"com/example/kerb/kerb/txn/LockKindCoversPinLaw", "pick", "(I)Lcom/example/kerb/kerb/txn/LockKind;"⟩ : MethodName)) hown (mvT hZ (hw _ (List.mem_of_getElem? (i := 1) rfl))) (mvT hZ (hw _ (List.mem_of_getElem? (i := 2) rfl))) (mvT hZ (hw _ (List.mem_of_getElem? (i := 3) rfl))) (mvT hZ (hw _ (List.mem_of_getElem? (i := 4) rfl))) (by decide) (backOf (W := 0) (own_rm1 l Z a0 hw [] (4 : Int32) w_INTENTION w_TABLE w_NEXT_KEY w_RECORD w_IMPLICIT w_GAP w_INSERT_INTENTION h0 n0 Z0 S_INTENTION S_TABLE S_NEXT_KEY S_RECORD S_IMPLICIT S_GAP S_INSERT_INTENTION) hZ (hw _ (List.mem_of_getElem? (i := 4) rfl)) (hw _ (List.mem_of_getElem? (i := 3) rfl)) (by decide) (by decide)) (g := (mkF m 17 #[.val (.int p1), .val (.int p2), .val (.int (4 : Int32)), .val (.int (4 : Int32)), .unset, .unset] [(.int (4 : Int32))])) rfl (by rw [hml]; rfl) (argsL := [(.int (4 : Int32))]) (rest := []) (lenOf own_pd93 rfl) rfl (by show 2 * 0 + _ ≤ _; exact Nat.le_of_eq rfl) (hb hby at_17) (fun _ _ => ⟨rfl, e0, (by decide : 0 + 0 ≤ _), (by decide : 0 + 0 ≤ _)⟩)
                      dsimp only [Pt.U, Pt.locs, Pt.cells, Pt.slots] at X301 l301 y301 z301 st301 hQ301
                      subst l301 y301 z301
                      obtain ⟨hv301, N301q, e301⟩ := hQ301
                      have N302 := Fr.app N0 N301q
                      rw [show (own_f1 (4 : Int32) w_INTENTION w_TABLE w_NEXT_KEY w_RECORD w_IMPLICIT w_GAP w_INSERT_INTENTION) = w_IMPLICIT from by first | rfl | decide | simp [own_f1]] at hv301
                      subst hv301
                      obtain ⟨v303, _, ⟨T303, L303, k303, n303⟩, -, X303, ⟨Lc303, hQ303, l303, y303, z303⟩, st303⟩ := Jvm.LawKit.callS X301 hx (y := (⟨"com/example/kerb/kerb/txn/LockKindCoversPinLaw", "pick", "(I)Lcom/example/kerb/kerb/txn/LockKind;"⟩ : MethodName)) hown (mvT hZ (hw _ (List.mem_of_getElem? (i := 1) rfl))) (mvT hZ (hw _ (List.mem_of_getElem? (i := 2) rfl))) (mvT hZ (hw _ (List.mem_of_getElem? (i := 3) rfl))) (mvT hZ (hw _ (List.mem_of_getElem? (i := 4) rfl))) (by decide) (backOf (W := 0) (own_rm1 l Z a0 hw [] (4 : Int32) w_INTENTION w_TABLE w_NEXT_KEY w_RECORD w_IMPLICIT w_GAP w_INSERT_INTENTION h0 n0 Z0 S_INTENTION S_TABLE S_NEXT_KEY S_RECORD S_IMPLICIT S_GAP S_INSERT_INTENTION) hZ (hw _ (List.mem_of_getElem? (i := 4) rfl)) (hw _ (List.mem_of_getElem? (i := 3) rfl)) (by decide) (by decide)) (g := (mkF m 23 #[.val (.int p1), .val (.int p2), .val (.int (4 : Int32)), .val (.int (4 : Int32)), .val (.ref w_IMPLICIT), .unset] [(.int (4 : Int32))])) rfl (by rw [hml]; rfl) (argsL := [(.int (4 : Int32))]) (rest := []) (lenOf own_pd93 rfl) rfl (by show 2 * 0 + _ ≤ _; exact Nat.le_of_eq rfl) (hb hby at_23) (fun _ _ => ⟨rfl, e301, (by decide : 0 + 0 ≤ _), (by decide : 0 + 0 ≤ _)⟩)
                      dsimp only [Pt.U, Pt.locs, Pt.cells, Pt.slots] at X303 l303 y303 z303 st303 hQ303
                      subst l303 y303 z303
                      obtain ⟨hv303, N303q, e303⟩ := hQ303
                      have N304 := Fr.app N302 N303q
                      rw [show (own_f1 (4 : Int32) w_INTENTION w_TABLE w_NEXT_KEY w_RECORD w_IMPLICIT w_GAP w_INSERT_INTENTION) = w_IMPLICIT from by first | rfl | decide | simp [own_f1]] at hv303
                      subst hv303
                      obtain ⟨cq305, kq305, q305a, q305b, q305c⟩ := isOf hZ e303 E_w_IMPLICIT
                      obtain ⟨v305, _, ⟨T305, L305, k305, n305⟩, -, X305, ⟨Lc305, hQ305, l305, y305, z305⟩, st305⟩ := X303.virtualBack hx (y := (⟨"com/example/kerb/kerb/txn/LockKind", "covers", "(Lcom/example/kerb/kerb/txn/LockKind;)Z"⟩ : MethodName)) (z := (⟨"com/example/kerb/kerb/txn/LockKind", "covers", "(Lcom/example/kerb/kerb/txn/LockKind;)Z"⟩ : MethodName)) hown (mvT hZ (hw _ (List.mem_of_getElem? (i := 10) rfl))) (mvT hZ (hw _ (List.mem_of_getElem? (i := 11) rfl))) (notFace_of_selects (args := #[]) (mvT hZ (hw _ (List.mem_of_getElem? (i := 13) rfl)))) (mvT hZ (hw _ (List.mem_of_getElem? (i := 13) rfl))) (mvT hZ (hw _ (List.mem_of_getElem? (i := 12) rfl))) (by decide) (backOf (W := 0) (own_rm2 l Z a0 hw [] w_IMPLICIT w_IMPLICIT (1 : Int32) w_NEXT_KEY w_GAP w_RECORD w_IMPLICIT h0 n0 Z0 F_coversRecord_w_IMPLICIT S_NEXT_KEY S_GAP S_RECORD S_IMPLICIT) hZ (hw _ (List.mem_of_getElem? (i := 14) rfl)) (hw _ (List.mem_of_getElem? (i := 6) rfl)) (by decide) (by decide)) q305a q305c (g := (mkF m 32 #[.val (.int p1), .val (.int p2), .val (.int (4 : Int32)), .val (.int (4 : Int32)), .val (.ref w_IMPLICIT), .val (.ref w_IMPLICIT)] [(.ref w_IMPLICIT), (.ref w_IMPLICIT)])) rfl (by rw [hml]; rfl) (Steps.refl _) (argsL := [(.ref w_IMPLICIT)]) (rest := []) (lenOf own_pd94 rfl) rfl (by show 2 * 0 + _ ≤ _; exact Nat.le_of_eq rfl) (hb hby at_32) (fun _ _ => ⟨rfl, e303, (by decide : 0 + 0 ≤ _), (by decide : 0 + 0 ≤ _)⟩)
                      dsimp only [Pt.U, Pt.locs, Pt.cells, Pt.slots] at X305 l305 y305 z305 st305 hQ305
                      subst l305 y305 z305
                      obtain ⟨hv305, N305q, e305⟩ := hQ305
                      have N306 := Fr.app N304 N305q
                      rw [show (own_f2 w_IMPLICIT w_IMPLICIT (1 : Int32) w_NEXT_KEY w_GAP w_RECORD w_IMPLICIT) = (1 : Int32) from by first | rfl | decide | simp [own_f2]] at hv305
                      subst hv305
                      obtain ⟨v307, _, ⟨T307, L307, k307, n307⟩, -, X307, ⟨Lc307, hQ307, l307, y307, z307⟩, st307⟩ := Jvm.LawKit.callS X305 hx (y := (⟨"com/example/kerb/kerb/txn/LockKindCoversPinLaw", "expected", "(II)Z"⟩ : MethodName)) hown (mvT hZ (hw _ (List.mem_of_getElem? (i := 19) rfl))) (mvT hZ (hw _ (List.mem_of_getElem? (i := 20) rfl))) (mvT hZ (hw _ (List.mem_of_getElem? (i := 3) rfl))) (mvT hZ (hw _ (List.mem_of_getElem? (i := 21) rfl))) (by decide) (backOf (W := 1) (own_rm3 l Z a0 hw [] (4 : Int32) (4 : Int32) h0 n0 Z0) hZ (hw _ (List.mem_of_getElem? (i := 21) rfl)) (hw _ (List.mem_of_getElem? (i := 3) rfl)) (by decide) (by decide)) (g := (mkF m 37 #[.val (.int p1), .val (.int p2), .val (.int (4 : Int32)), .val (.int (4 : Int32)), .val (.ref w_IMPLICIT), .val (.ref w_IMPLICIT)] [(.int (4 : Int32)), (.int (4 : Int32)), (.int (1 : Int32))])) rfl (by rw [hml]; rfl) (argsL := [(.int (4 : Int32)), (.int (4 : Int32))]) (rest := [(.int (1 : Int32))]) (lenOf own_pd95 rfl) rfl (by show 2 * 0 + _ ≤ _; exact Nat.le_of_eq rfl) (hb hby at_37) (fun _ _ => ⟨rfl, e305, (by decide : 0 + 0 ≤ _), (by decide : 0 + 0 ≤ _)⟩)
                      dsimp only [Pt.U, Pt.locs, Pt.cells, Pt.slots] at X307 l307 y307 z307 st307 hQ307
                      subst l307 y307 z307
                      obtain ⟨hv307, N307q, e307⟩ := hQ307
                      have N308 := Fr.app N306 N307q
                      rw [show (own_f3 (4 : Int32) (4 : Int32)) = (1 : Int32) from by first | rfl | decide | simp [own_f3]] at hv307
                      subst hv307
                      obtain ⟨fs, hr, hrun, hended, hW, hsame⟩ := X307.leave (v := some (.int (1 : Int32))) (fun h => by rw [Bd.returns] at h; cases h)
                      refine ⟨_, _, k300 _ ?_, hrun, hended, _, _, rfl, ?_, ⟨_, rfl⟩, hW, hsame.mono (by decide) (by decide)⟩
                      · show Steps p.tables e below (s₁.setTop (mkF m 15 #[.val (.int p1), .val (.int p2), .val (.int (4 : Int32)), .unset, .unset, .unset] [(.int (4 : Int32))])) _
                        refine XS.istoreN X0.here hx rfl (hb hby at_15) rfl (l' := #[.val (.int p1), .val (.int p2), .val (.int (4 : Int32)), .val (.int (4 : Int32)), .unset, .unset]) rfl ?_
                        show Steps p.tables e below (s₁.setTop (mkF m 16 #[.val (.int p1), .val (.int p2), .val (.int (4 : Int32)), .val (.int (4 : Int32)), .unset, .unset] [])) _
                        refine XS.iloadN X0.here hx rfl (hb hby at_16) rfl ?_
                        show Steps p.tables e below (s₁.setTop (mkF m 17 #[.val (.int p1), .val (.int p2), .val (.int (4 : Int32)), .val (.int (4 : Int32)), .unset, .unset] [(.int (4 : Int32))])) _
                        refine st301 _ ?_
                        show Steps p.tables e below (T301.setTop (mkF m 20 #[.val (.int p1), .val (.int p2), .val (.int (4 : Int32)), .val (.int (4 : Int32)), .unset, .unset] [(.ref w_IMPLICIT)])) _
                        refine XS.astore X301.here hx rfl (hb hby at_20) rfl rfl (l' := #[.val (.int p1), .val (.int p2), .val (.int (4 : Int32)), .val (.int (4 : Int32)), .val (.ref w_IMPLICIT), .unset]) rfl ?_
                        show Steps p.tables e below (T301.setTop (mkF m 22 #[.val (.int p1), .val (.int p2), .val (.int (4 : Int32)), .val (.int (4 : Int32)), .val (.ref w_IMPLICIT), .unset] [])) _
                        refine XS.iloadN X301.here hx rfl (hb hby at_22) rfl ?_
                        show Steps p.tables e below (T301.setTop (mkF m 23 #[.val (.int p1), .val (.int p2), .val (.int (4 : Int32)), .val (.int (4 : Int32)), .val (.ref w_IMPLICIT), .unset] [(.int (4 : Int32))])) _
                        refine st303 _ ?_
                        show Steps p.tables e below (T303.setTop (mkF m 26 #[.val (.int p1), .val (.int p2), .val (.int (4 : Int32)), .val (.int (4 : Int32)), .val (.ref w_IMPLICIT), .unset] [(.ref w_IMPLICIT)])) _
                        refine XS.astore X303.here hx rfl (hb hby at_26) rfl rfl (l' := #[.val (.int p1), .val (.int p2), .val (.int (4 : Int32)), .val (.int (4 : Int32)), .val (.ref w_IMPLICIT), .val (.ref w_IMPLICIT)]) rfl ?_
                        show Steps p.tables e below (T303.setTop (mkF m 28 #[.val (.int p1), .val (.int p2), .val (.int (4 : Int32)), .val (.int (4 : Int32)), .val (.ref w_IMPLICIT), .val (.ref w_IMPLICIT)] [])) _
                        refine XS.aload X303.here hx rfl (hb hby at_28) rfl rfl ?_
                        show Steps p.tables e below (T303.setTop (mkF m 30 #[.val (.int p1), .val (.int p2), .val (.int (4 : Int32)), .val (.int (4 : Int32)), .val (.ref w_IMPLICIT), .val (.ref w_IMPLICIT)] [(.ref w_IMPLICIT)])) _
                        refine XS.aload X303.here hx rfl (hb hby at_30) rfl rfl ?_
                        show Steps p.tables e below (T303.setTop (mkF m 32 #[.val (.int p1), .val (.int p2), .val (.int (4 : Int32)), .val (.int (4 : Int32)), .val (.ref w_IMPLICIT), .val (.ref w_IMPLICIT)] [(.ref w_IMPLICIT), (.ref w_IMPLICIT)])) _
                        refine st305.trans ?_
                        show Steps p.tables e below (T305.setTop (mkF m 35 #[.val (.int p1), .val (.int p2), .val (.int (4 : Int32)), .val (.int (4 : Int32)), .val (.ref w_IMPLICIT), .val (.ref w_IMPLICIT)] [(.int (1 : Int32))])) _
                        refine XS.iloadN X305.here hx rfl (hb hby at_35) rfl ?_
                        show Steps p.tables e below (T305.setTop (mkF m 36 #[.val (.int p1), .val (.int p2), .val (.int (4 : Int32)), .val (.int (4 : Int32)), .val (.ref w_IMPLICIT), .val (.ref w_IMPLICIT)] [(.int (4 : Int32)), (.int (1 : Int32))])) _
                        refine XS.iloadN X305.here hx rfl (hb hby at_36) rfl ?_
                        show Steps p.tables e below (T305.setTop (mkF m 37 #[.val (.int p1), .val (.int p2), .val (.int (4 : Int32)), .val (.int (4 : Int32)), .val (.ref w_IMPLICIT), .val (.ref w_IMPLICIT)] [(.int (4 : Int32)), (.int (4 : Int32)), (.int (1 : Int32))])) _
                        refine st307 _ ?_
                        show Steps p.tables e below (T307.setTop (mkF m 40 #[.val (.int p1), .val (.int p2), .val (.int (4 : Int32)), .val (.int (4 : Int32)), .val (.ref w_IMPLICIT), .val (.ref w_IMPLICIT)] [(.int (1 : Int32)), (.int (1 : Int32))])) _
                        refine XS.icmpNo X307.here hx rfl (hb hby at_40) rfl (teq (by decide : (1 : Int32) = (1 : Int32))).2 ?_
                        show Steps p.tables e below (T307.setTop (mkF m 43 #[.val (.int p1), .val (.int p2), .val (.int (4 : Int32)), .val (.int (4 : Int32)), .val (.ref w_IMPLICIT), .val (.ref w_IMPLICIT)] [])) _
                        refine XS.iconst X307.here hx rfl (hb hby at_43) ?_
                        show Steps p.tables e below (T307.setTop (mkF m 44 #[.val (.int p1), .val (.int p2), .val (.int (4 : Int32)), .val (.int (4 : Int32)), .val (.ref w_IMPLICIT), .val (.ref w_IMPLICIT)] [(.int (1 : Int32))])) _
                        refine XS.goto X307.here hx rfl (pc0 := 44) (pc' := 48) rfl (hb hby at_44) (by decide) (by decide) ?_
                        show Steps p.tables e below (T307.setTop (mkF m 48 #[.val (.int p1), .val (.int p2), .val (.int (4 : Int32)), .val (.int (4 : Int32)), .val (.ref w_IMPLICIT), .val (.ref w_IMPLICIT)] [(.int (1 : Int32))])) _
                        exact retN X307 hx (t := .boolean) Bd.returns (by simp) (hb hby at_48) hr
                      · show own_Q0 Z p1 p2 w_INTENTION w_TABLE w_NEXT_KEY w_RECORD w_IMPLICIT w_GAP w_INSERT_INTENTION h0 n0 _ T307.heap _
                        rw [e307]
                        exact ⟨(by rw [own_f0, if_neg hc1, if_neg hc9, if_neg hc17, if_neg hc25, if_pos hc33, if_neg hc34, if_neg hc35, if_neg hc36, if_neg hc37, if_pos hc38]), N308⟩
                    ·
                      by_cases hc39 : ((p2 &&& (2147483647 : Int32)) - ((p2 &&& (2147483647 : Int32)) / (7 : Int32)) * (7 : Int32)) = (5 : Int32)
                      ·
                        have k309 : ∀ t, Steps p.tables e below (s₁.setTop (mkF m 15 #[.val (.int p1), .val (.int p2), .val (.int (4 : Int32)), .unset, .unset, .unset] [(.int (5 : Int32))])) t → Steps p.tables e below (s₁.setTop (entryFrame m #[(.int p1), (.int p2)] maxLocals)) t := by
                          intro t kt
                          refine k263 t ?_
                          rw [hc39]
                          exact kt
                        obtain ⟨v310, _, ⟨T310, L310, k310, n310⟩, -, X310, ⟨Lc310, hQ310, l310, y310, z310⟩, st310⟩ := Jvm.LawKit.callS X0 hx (y := (⟨"com/example/kerb/kerb/txn/LockKindCoversPinLaw", "pick", "(I)Lcom/example/kerb/kerb/txn/LockKind;"⟩ : MethodName)) hown (mvT hZ (hw _ (List.mem_of_getElem? (i := 1) rfl))) (mvT hZ (hw _ (List.mem_of_getElem? (i := 2) rfl))) (mvT hZ (hw _ (List.mem_of_getElem? (i := 3) rfl))) (mvT hZ (hw _ (List.mem_of_getElem? (i := 4) rfl))) (by decide) (backOf (W := 0) (own_rm1 l Z a0 hw [] (4 : Int32) w_INTENTION w_TABLE w_NEXT_KEY w_RECORD w_IMPLICIT w_GAP w_INSERT_INTENTION h0 n0 Z0 S_INTENTION S_TABLE S_NEXT_KEY S_RECORD S_IMPLICIT S_GAP S_INSERT_INTENTION) hZ (hw _ (List.mem_of_getElem? (i := 4) rfl)) (hw _ (List.mem_of_getElem? (i := 3) rfl)) (by decide) (by decide)) (g := (mkF m 17 #[.val (.int p1), .val (.int p2), .val (.int (4 : Int32)), .val (.int (5 : Int32)), .unset, .unset] [(.int (4 : Int32))])) rfl (by rw [hml]; rfl) (argsL := [(.int (4 : Int32))]) (rest := []) (lenOf own_pd93 rfl) rfl (by show 2 * 0 + _ ≤ _; exact Nat.le_of_eq rfl) (hb hby at_17) (fun _ _ => ⟨rfl, e0, (by decide : 0 + 0 ≤ _), (by decide : 0 + 0 ≤ _)⟩)
                        dsimp only [Pt.U, Pt.locs, Pt.cells, Pt.slots] at X310 l310 y310 z310 st310 hQ310
                        subst l310 y310 z310
                        obtain ⟨hv310, N310q, e310⟩ := hQ310
                        have N311 := Fr.app N0 N310q
                        rw [show (own_f1 (4 : Int32) w_INTENTION w_TABLE w_NEXT_KEY w_RECORD w_IMPLICIT w_GAP w_INSERT_INTENTION) = w_IMPLICIT from by first | rfl | decide | simp [own_f1]] at hv310
                        subst hv310
                        obtain ⟨v312, _, ⟨T312, L312, k312, n312⟩, -, X312, ⟨Lc312, hQ312, l312, y312, z312⟩, st312⟩ := Jvm.LawKit.callS X310 hx (y := (⟨"com/example/kerb/kerb/txn/LockKindCoversPinLaw", "pick", "(I)Lcom/example/kerb/kerb/txn/LockKind;"⟩ : MethodName)) hown (mvT hZ (hw _ (List.mem_of_getElem? (i := 1) rfl))) (mvT hZ (hw _ (List.mem_of_getElem? (i := 2) rfl))) (mvT hZ (hw _ (List.mem_of_getElem? (i := 3) rfl))) (mvT hZ (hw _ (List.mem_of_getElem? (i := 4) rfl))) (by decide) (backOf (W := 0) (own_rm1 l Z a0 hw [] (5 : Int32) w_INTENTION w_TABLE w_NEXT_KEY w_RECORD w_IMPLICIT w_GAP w_INSERT_INTENTION h0 n0 Z0 S_INTENTION S_TABLE S_NEXT_KEY S_RECORD S_IMPLICIT S_GAP S_INSERT_INTENTION) hZ (hw _ (List.mem_of_getElem? (i := 4) rfl)) (hw _ (List.mem_of_getElem? (i := 3) rfl)) (by decide) (by decide)) (g := (mkF m 23 #[.val (.int p1), .val (.int p2), .val (.int (4 : Int32)), .val (.int (5 : Int32)), .val (.ref w_IMPLICIT), .unset] [(.int (5 : Int32))])) rfl (by rw [hml]; rfl) (argsL := [(.int (5 : Int32))]) (rest := []) (lenOf own_pd93 rfl) rfl (by show 2 * 0 + _ ≤ _; exact Nat.le_of_eq rfl) (hb hby at_23) (fun _ _ => ⟨rfl, e310, (by decide : 0 + 0 ≤ _), (by decide : 0 + 0 ≤ _)⟩)
                        dsimp only [Pt.U, Pt.locs, Pt.cells, Pt.slots] at X312 l312 y312 z312 st312 hQ312
                        subst l312 y312 z312
                        obtain ⟨hv312, N312q, e312⟩ := hQ312
                        have N313 := Fr.app N311 N312q
                        rw [show (own_f1 (5 : Int32) w_INTENTION w_TABLE w_NEXT_KEY w_RECORD w_IMPLICIT w_GAP w_INSERT_INTENTION) = w_GAP from by first | rfl | decide | simp [own_f1]] at hv312
                        subst hv312
                        obtain ⟨cq314, kq314, q314a, q314b, q314c⟩ := isOf hZ e312 E_w_IMPLICIT
                        obtain ⟨v314, _, ⟨T314, L314, k314, n314⟩, -, X314, ⟨Lc314, hQ314, l314, y314, z314⟩, st314⟩ := X312.virtualBack hx (y := (⟨"com/example/kerb/kerb/txn/LockKind", "covers", "(Lcom/example/kerb/kerb/txn/LockKind;)Z"⟩ : MethodName)) (z := (⟨"com/example/kerb/kerb/txn/LockKind", "covers", "(Lcom/example/kerb/kerb/txn/LockKind;)Z"⟩ : MethodName)) hown (mvT hZ (hw _ (List.mem_of_getElem? (i := 10) rfl))) (mvT hZ (hw _ (List.mem_of_getElem? (i := 11) rfl))) (notFace_of_selects (args := #[]) (mvT hZ (hw _ (List.mem_of_getElem? (i := 13) rfl)))) (mvT hZ (hw _ (List.mem_of_getElem? (i := 13) rfl))) (mvT hZ (hw _ (List.mem_of_getElem? (i := 12) rfl))) (by decide) (backOf (W := 0) (own_rm2 l Z a0 hw [] w_IMPLICIT w_GAP (1 : Int32) w_NEXT_KEY w_GAP w_RECORD w_IMPLICIT h0 n0 Z0 F_coversRecord_w_IMPLICIT S_NEXT_KEY S_GAP S_RECORD S_IMPLICIT) hZ (hw _ (List.mem_of_getElem? (i := 14) rfl)) (hw _ (List.mem_of_getElem? (i := 6) rfl)) (by decide) (by decide)) q314a q314c (g := (mkF m 32 #[.val (.int p1), .val (.int p2), .val (.int (4 : Int32)), .val (.int (5 : Int32)), .val (.ref w_IMPLICIT), .val (.ref w_GAP)] [(.ref w_GAP), (.ref w_IMPLICIT)])) rfl (by rw [hml]; rfl) (Steps.refl _) (argsL := [(.ref w_GAP)]) (rest := []) (lenOf own_pd94 rfl) rfl (by show 2 * 0 + _ ≤ _; exact Nat.le_of_eq rfl) (hb hby at_32) (fun _ _ => ⟨rfl, e312, (by decide : 0 + 0 ≤ _), (by decide : 0 + 0 ≤ _)⟩)
                        dsimp only [Pt.U, Pt.locs, Pt.cells, Pt.slots] at X314 l314 y314 z314 st314 hQ314
                        subst l314 y314 z314
                        obtain ⟨hv314, N314q, e314⟩ := hQ314
                        have N315 := Fr.app N313 N314q
                        rw [show (own_f2 w_IMPLICIT w_GAP (1 : Int32) w_NEXT_KEY w_GAP w_RECORD w_IMPLICIT) = (0 : Int32) from by first | rfl | decide | simp [own_f2, ne_IMPLICIT_GAP, ne_IMPLICIT_GAP.symm, ne_NEXT_KEY_IMPLICIT.symm, ne_RECORD_GAP.symm]] at hv314
                        subst hv314
                        obtain ⟨v316, _, ⟨T316, L316, k316, n316⟩, -, X316, ⟨Lc316, hQ316, l316, y316, z316⟩, st316⟩ := Jvm.LawKit.callS X314 hx (y := (⟨"com/example/kerb/kerb/txn/LockKindCoversPinLaw", "expected", "(II)Z"⟩ : MethodName)) hown (mvT hZ (hw _ (List.mem_of_getElem? (i := 19) rfl))) (mvT hZ (hw _ (List.mem_of_getElem? (i := 20) rfl))) (mvT hZ (hw _ (List.mem_of_getElem? (i := 3) rfl))) (mvT hZ (hw _ (List.mem_of_getElem? (i := 21) rfl))) (by decide) (backOf (W := 1) (own_rm3 l Z a0 hw [] (4 : Int32) (5 : Int32) h0 n0 Z0) hZ (hw _ (List.mem_of_getElem? (i := 21) rfl)) (hw _ (List.mem_of_getElem? (i := 3) rfl)) (by decide) (by decide)) (g := (mkF m 37 #[.val (.int p1), .val (.int p2), .val (.int (4 : Int32)), .val (.int (5 : Int32)), .val (.ref w_IMPLICIT), .val (.ref w_GAP)] [(.int (5 : Int32)), (.int (4 : Int32)), (.int (0 : Int32))])) rfl (by rw [hml]; rfl) (argsL := [(.int (4 : Int32)), (.int (5 : Int32))]) (rest := [(.int (0 : Int32))]) (lenOf own_pd95 rfl) rfl (by show 2 * 0 + _ ≤ _; exact Nat.le_of_eq rfl) (hb hby at_37) (fun _ _ => ⟨rfl, e314, (by decide : 0 + 0 ≤ _), (by decide : 0 + 0 ≤ _)⟩)
                        dsimp only [Pt.U, Pt.locs, Pt.cells, Pt.slots] at X316 l316 y316 z316 st316 hQ316
                        subst l316 y316 z316
                        obtain ⟨hv316, N316q, e316⟩ := hQ316
                        have N317 := Fr.app N315 N316q
                        rw [show (own_f3 (4 : Int32) (5 : Int32)) = (0 : Int32) from by first | rfl | decide | simp [own_f3]] at hv316
                        subst hv316
                        obtain ⟨fs, hr, hrun, hended, hW, hsame⟩ := X316.leave (v := some (.int (1 : Int32))) (fun h => by rw [Bd.returns] at h; cases h)
                        refine ⟨_, _, k309 _ ?_, hrun, hended, _, _, rfl, ?_, ⟨_, rfl⟩, hW, hsame.mono (by decide) (by decide)⟩
                        · show Steps p.tables e below (s₁.setTop (mkF m 15 #[.val (.int p1), .val (.int p2), .val (.int (4 : Int32)), .unset, .unset, .unset] [(.int (5 : Int32))])) _
                          refine XS.istoreN X0.here hx rfl (hb hby at_15) rfl (l' := #[.val (.int p1), .val (.int p2), .val (.int (4 : Int32)), .val (.int (5 : Int32)), .unset, .unset]) rfl ?_
                          show Steps p.tables e below (s₁.setTop (mkF m 16 #[.val (.int p1), .val (.int p2), .val (.int (4 : Int32)), .val (.int (5 : Int32)), .unset, .unset] [])) _
                          refine XS.iloadN X0.here hx rfl (hb hby at_16) rfl ?_
                          show Steps p.tables e below (s₁.setTop (mkF m 17 #[.val (.int p1), .val (.int p2), .val (.int (4 : Int32)), .val (.int (5 : Int32)), .unset, .unset] [(.int (4 : Int32))])) _
                          refine st310 _ ?_
                          show Steps p.tables e below (T310.setTop (mkF m 20 #[.val (.int p1), .val (.int p2), .val (.int (4 : Int32)), .val (.int (5 : Int32)), .unset, .unset] [(.ref w_IMPLICIT)])) _
                          refine XS.astore X310.here hx rfl (hb hby at_20) rfl rfl (l' := #[.val (.int p1), .val (.int p2), .val (.int (4 : Int32)), .val (.int (5 : Int32)), .val (.ref w_IMPLICIT), .unset]) rfl ?_
                          show Steps p.tables e below (T310.setTop (mkF m 22 #[.val (.int p1), .val (.int p2), .val (.int (4 : Int32)), .val (.int (5 : Int32)), .val (.ref w_IMPLICIT), .unset] [])) _
                          refine XS.iloadN X310.here hx rfl (hb hby at_22) rfl ?_
                          show Steps p.tables e below (T310.setTop (mkF m 23 #[.val (.int p1), .val (.int p2), .val (.int (4 : Int32)), .val (.int (5 : Int32)), .val (.ref w_IMPLICIT), .unset] [(.int (5 : Int32))])) _
                          refine st312 _ ?_
                          show Steps p.tables e below (T312.setTop (mkF m 26 #[.val (.int p1), .val (.int p2), .val (.int (4 : Int32)), .val (.int (5 : Int32)), .val (.ref w_IMPLICIT), .unset] [(.ref w_GAP)])) _
                          refine XS.astore X312.here hx rfl (hb hby at_26) rfl rfl (l' := #[.val (.int p1), .val (.int p2), .val (.int (4 : Int32)), .val (.int (5 : Int32)), .val (.ref w_IMPLICIT), .val (.ref w_GAP)]) rfl ?_
                          show Steps p.tables e below (T312.setTop (mkF m 28 #[.val (.int p1), .val (.int p2), .val (.int (4 : Int32)), .val (.int (5 : Int32)), .val (.ref w_IMPLICIT), .val (.ref w_GAP)] [])) _
                          refine XS.aload X312.here hx rfl (hb hby at_28) rfl rfl ?_
                          show Steps p.tables e below (T312.setTop (mkF m 30 #[.val (.int p1), .val (.int p2), .val (.int (4 : Int32)), .val (.int (5 : Int32)), .val (.ref w_IMPLICIT), .val (.ref w_GAP)] [(.ref w_IMPLICIT)])) _
                          refine XS.aload X312.here hx rfl (hb hby at_30) rfl rfl ?_
                          show Steps p.tables e below (T312.setTop (mkF m 32 #[.val (.int p1), .val (.int p2), .val (.int (4 : Int32)), .val (.int (5 : Int32)), .val (.ref w_IMPLICIT), .val (.ref w_GAP)] [(.ref w_GAP), (.ref w_IMPLICIT)])) _
                          refine st314.trans ?_
                          show Steps p.tables e below (T314.setTop (mkF m 35 #[.val (.int p1), .val (.int p2), .val (.int (4 : Int32)), .val (.int (5 : Int32)), .val (.ref w_IMPLICIT), .val (.ref w_GAP)] [(.int (0 : Int32))])) _
                          refine XS.iloadN X314.here hx rfl (hb hby at_35) rfl ?_
                          show Steps p.tables e below (T314.setTop (mkF m 36 #[.val (.int p1), .val (.int p2), .val (.int (4 : Int32)), .val (.int (5 : Int32)), .val (.ref w_IMPLICIT), .val (.ref w_GAP)] [(.int (4 : Int32)), (.int (0 : Int32))])) _
                          refine XS.iloadN X314.here hx rfl (hb hby at_36) rfl ?_
                          show Steps p.tables e below (T314.setTop (mkF m 37 #[.val (.int p1), .val (.int p2), .val (.int (4 : Int32)), .val (.int (5 : Int32)), .val (.ref w_IMPLICIT), .val (.ref w_GAP)] [(.int (5 : Int32)), (.int (4 : Int32)), (.int (0 : Int32))])) _
                          refine st316 _ ?_
                          show Steps p.tables e below (T316.setTop (mkF m 40 #[.val (.int p1), .val (.int p2), .val (.int (4 : Int32)), .val (.int (5 : Int32)), .val (.ref w_IMPLICIT), .val (.ref w_GAP)] [(.int (0 : Int32)), (.int (0 : Int32))])) _
                          refine XS.icmpNo X316.here hx rfl (hb hby at_40) rfl (teq (by decide : (0 : Int32) = (0 : Int32))).2 ?_
                          show Steps p.tables e below (T316.setTop (mkF m 43 #[.val (.int p1), .val (.int p2), .val (.int (4 : Int32)), .val (.int (5 : Int32)), .val (.ref w_IMPLICIT), .val (.ref w_GAP)] [])) _
                          refine XS.iconst X316.here hx rfl (hb hby at_43) ?_
                          show Steps p.tables e below (T316.setTop (mkF m 44 #[.val (.int p1), .val (.int p2), .val (.int (4 : Int32)), .val (.int (5 : Int32)), .val (.ref w_IMPLICIT), .val (.ref w_GAP)] [(.int (1 : Int32))])) _
                          refine XS.goto X316.here hx rfl (pc0 := 44) (pc' := 48) rfl (hb hby at_44) (by decide) (by decide) ?_
                          show Steps p.tables e below (T316.setTop (mkF m 48 #[.val (.int p1), .val (.int p2), .val (.int (4 : Int32)), .val (.int (5 : Int32)), .val (.ref w_IMPLICIT), .val (.ref w_GAP)] [(.int (1 : Int32))])) _
                          exact retN X316 hx (t := .boolean) Bd.returns (by simp) (hb hby at_48) hr
                        · show own_Q0 Z p1 p2 w_INTENTION w_TABLE w_NEXT_KEY w_RECORD w_IMPLICIT w_GAP w_INSERT_INTENTION h0 n0 _ T316.heap _
                          rw [e316]
                          exact ⟨(by rw [own_f0, if_neg hc1, if_neg hc9, if_neg hc17, if_neg hc25, if_pos hc33, if_neg hc34, if_neg hc35, if_neg hc36, if_neg hc37, if_neg hc38, if_pos hc39]), N317⟩
                      ·
                        have hc40 : ((p2 &&& (2147483647 : Int32)) - ((p2 &&& (2147483647 : Int32)) / (7 : Int32)) * (7 : Int32)) = (6 : Int32) := own_exh p2 hc34 hc35 hc36 hc37 hc38 hc39
                        have k318 : ∀ t, Steps p.tables e below (s₁.setTop (mkF m 15 #[.val (.int p1), .val (.int p2), .val (.int (4 : Int32)), .unset, .unset, .unset] [(.int (6 : Int32))])) t → Steps p.tables e below (s₁.setTop (entryFrame m #[(.int p1), (.int p2)] maxLocals)) t := by
                          intro t kt
                          refine k263 t ?_
                          rw [hc40]
                          exact kt
                        obtain ⟨v319, _, ⟨T319, L319, k319, n319⟩, -, X319, ⟨Lc319, hQ319, l319, y319, z319⟩, st319⟩ := Jvm.LawKit.callS X0 hx (y := (⟨"com/example/kerb/kerb/txn/LockKindCoversPinLaw", "pick", "(I)Lcom/example/kerb/kerb/txn/LockKind;"⟩ : MethodName)) hown (mvT hZ (hw _ (List.mem_of_getElem? (i := 1) rfl))) (mvT hZ (hw _ (List.mem_of_getElem? (i := 2) rfl))) (mvT hZ (hw _ (List.mem_of_getElem? (i := 3) rfl))) (mvT hZ (hw _ (List.mem_of_getElem? (i := 4) rfl))) (by decide) (backOf (W := 0) (own_rm1 l Z a0 hw [] (4 : Int32) w_INTENTION w_TABLE w_NEXT_KEY w_RECORD w_IMPLICIT w_GAP w_INSERT_INTENTION h0 n0 Z0 S_INTENTION S_TABLE S_NEXT_KEY S_RECORD S_IMPLICIT S_GAP S_INSERT_INTENTION) hZ (hw _ (List.mem_of_getElem? (i := 4) rfl)) (hw _ (List.mem_of_getElem? (i := 3) rfl)) (by decide) (by decide)) (g := (mkF m 17 #[.val (.int p1), .val (.int p2), .val (.int (4 : Int32)), .val (.int (6 : Int32)), .unset, .unset] [(.int (4 : Int32))])) rfl (by rw [hml]; rfl) (argsL := [(.int (4 : Int32))]) (rest := []) (lenOf own_pd93 rfl) rfl (by show 2 * 0 + _ ≤ _; exact Nat.le_of_eq rfl) (hb hby at_17) (fun _ _ => ⟨rfl, e0, (by decide : 0 + 0 ≤ _), (by decide : 0 + 0 ≤ _)⟩)
                        dsimp only [Pt.U, Pt.locs, Pt.cells, Pt.slots] at X319 l319 y319 z319 st319 hQ319
                        subst l319 y319 z319
                        obtain ⟨hv319, N319q, e319⟩ := hQ319
                        have N320 := Fr.app N0 N319q
                        rw [show (own_f1 (4 : Int32) w_INTENTION w_TABLE w_NEXT_KEY w_RECORD w_IMPLICIT w_GAP w_INSERT_INTENTION) = w_IMPLICIT from by first | rfl | decide | simp [own_f1]] at hv319
                        subst hv319
                        obtain ⟨v321, _, ⟨T321, L321, k321, n321⟩, -, X321, ⟨Lc321, hQ321, l321, y321, z321⟩, st321⟩ := Jvm.LawKit.callS X319 hx (y := (⟨"com/example/kerb/kerb/txn/LockKindCoversPinLaw", "pick", "(I)Lcom/example/kerb/kerb/txn/LockKind;"⟩ : MethodName)) hown (mvT hZ (hw _ (List.mem_of_getElem? (i := 1) rfl))) (mvT hZ (hw _ (List.mem_of_getElem? (i := 2) rfl))) (mvT hZ (hw _ (List.mem_of_getElem? (i := 3) rfl))) (mvT hZ (hw _ (List.mem_of_getElem? (i := 4) rfl))) (by decide) (backOf (W := 0) (own_rm1 l Z a0 hw [] (6 : Int32) w_INTENTION w_TABLE w_NEXT_KEY w_RECORD w_IMPLICIT w_GAP w_INSERT_INTENTION h0 n0 Z0 S_INTENTION S_TABLE S_NEXT_KEY S_RECORD S_IMPLICIT S_GAP S_INSERT_INTENTION) hZ (hw _ (List.mem_of_getElem? (i := 4) rfl)) (hw _ (List.mem_of_getElem? (i := 3) rfl)) (by decide) (by decide)) (g := (mkF m 23 #[.val (.int p1), .val (.int p2), .val (.int (4 : Int32)), .val (.int (6 : Int32)), .val (.ref w_IMPLICIT), .unset] [(.int (6 : Int32))])) rfl (by rw [hml]; rfl) (argsL := [(.int (6 : Int32))]) (rest := []) (lenOf own_pd93 rfl) rfl (by show 2 * 0 + _ ≤ _; exact Nat.le_of_eq rfl) (hb hby at_23) (fun _ _ => ⟨rfl, e319, (by decide : 0 + 0 ≤ _), (by decide : 0 + 0 ≤ _)⟩)
                        dsimp only [Pt.U, Pt.locs, Pt.cells, Pt.slots] at X321 l321 y321 z321 st321 hQ321
                        subst l321 y321 z321
                        obtain ⟨hv321, N321q, e321⟩ := hQ321
                        have N322 := Fr.app N320 N321q
                        rw [show (own_f1 (6 : Int32) w_INTENTION w_TABLE w_NEXT_KEY w_RECORD w_IMPLICIT w_GAP w_INSERT_INTENTION) = w_INSERT_INTENTION from by first | rfl | decide | simp [own_f1]] at hv321
                        subst hv321
                        obtain ⟨cq323, kq323, q323a, q323b, q323c⟩ := isOf hZ e321 E_w_IMPLICIT
                        obtain ⟨v323, _, ⟨T323, L323, k323, n323⟩, -, X323, ⟨Lc323, hQ323, l323, y323, z323⟩, st323⟩ := X321.virtualBack hx (y := (⟨"com/example/kerb/kerb/txn/LockKind", "covers", "(Lcom/example/kerb/kerb/txn/LockKind;)Z"⟩ : MethodName)) (z := (⟨"com/example/kerb/kerb/txn/LockKind", "covers", "(Lcom/example/kerb/kerb/txn/LockKind;)Z"⟩ : MethodName)) hown (mvT hZ (hw _ (List.mem_of_getElem? (i := 10) rfl))) (mvT hZ (hw _ (List.mem_of_getElem? (i := 11) rfl))) (notFace_of_selects (args := #[]) (mvT hZ (hw _ (List.mem_of_getElem? (i := 13) rfl)))) (mvT hZ (hw _ (List.mem_of_getElem? (i := 13) rfl))) (mvT hZ (hw _ (List.mem_of_getElem? (i := 12) rfl))) (by decide) (backOf (W := 0) (own_rm2 l Z a0 hw [] w_IMPLICIT w_INSERT_INTENTION (1 : Int32) w_NEXT_KEY w_GAP w_RECORD w_IMPLICIT h0 n0 Z0 F_coversRecord_w_IMPLICIT S_NEXT_KEY S_GAP S_RECORD S_IMPLICIT) hZ (hw _ (List.mem_of_getElem? (i := 14) rfl)) (hw _ (List.mem_of_getElem? (i := 6) rfl)) (by decide) (by decide)) q323a q323c (g := (mkF m 32 #[.val (.int p1), .val (.int p2), .val (.int (4 : Int32)), .val (.int (6 : Int32)), .val (.ref w_IMPLICIT), .val (.ref w_INSERT_INTENTION)] [(.ref w_INSERT_INTENTION), (.ref w_IMPLICIT)])) rfl (by rw [hml]; rfl) (Steps.refl _) (argsL := [(.ref w_INSERT_INTENTION)]) (rest := []) (lenOf own_pd94 rfl) rfl (by show 2 * 0 + _ ≤ _; exact Nat.le_of_eq rfl) (hb hby at_32) (fun _ _ => ⟨rfl, e321, (by decide : 0 + 0 ≤ _), (by decide : 0 + 0 ≤ _)⟩)
                        dsimp only [Pt.U, Pt.locs, Pt.cells, Pt.slots] at X323 l323 y323 z323 st323 hQ323
                        subst l323 y323 z323
                        obtain ⟨hv323, N323q, e323⟩ := hQ323
                        have N324 := Fr.app N322 N323q
                        rw [show (own_f2 w_IMPLICIT w_INSERT_INTENTION (1 : Int32) w_NEXT_KEY w_GAP w_RECORD w_IMPLICIT) = (0 : Int32) from by first | rfl | decide | simp [own_f2, ne_IMPLICIT_INSERT_INTENTION, ne_IMPLICIT_INSERT_INTENTION.symm, ne_NEXT_KEY_IMPLICIT.symm, ne_RECORD_INSERT_INTENTION.symm]] at hv323
                        subst hv323
                        obtain ⟨v325, _, ⟨T325, L325, k325, n325⟩, -, X325, ⟨Lc325, hQ325, l325, y325, z325⟩, st325⟩ := Jvm.LawKit.callS X323 hx (y := (⟨"com/example/kerb/kerb/txn/LockKindCoversPinLaw", "expected", "(II)Z"⟩ : MethodName)) hown (mvT hZ (hw _ (List.mem_of_getElem? (i := 19) rfl))) (mvT hZ (hw _ (List.mem_of_getElem? (i := 20) rfl))) (mvT hZ (hw _ (List.mem_of_getElem? (i := 3) rfl))) (mvT hZ (hw _ (List.mem_of_getElem? (i := 21) rfl))) (by decide) (backOf (W := 1) (own_rm3 l Z a0 hw [] (4 : Int32) (6 : Int32) h0 n0 Z0) hZ (hw _ (List.mem_of_getElem? (i := 21) rfl)) (hw _ (List.mem_of_getElem? (i := 3) rfl)) (by decide) (by decide)) (g := (mkF m 37 #[.val (.int p1), .val (.int p2), .val (.int (4 : Int32)), .val (.int (6 : Int32)), .val (.ref w_IMPLICIT), .val (.ref w_INSERT_INTENTION)] [(.int (6 : Int32)), (.int (4 : Int32)), (.int (0 : Int32))])) rfl (by rw [hml]; rfl) (argsL := [(.int (4 : Int32)), (.int (6 : Int32))]) (rest := [(.int (0 : Int32))]) (lenOf own_pd95 rfl) rfl (by show 2 * 0 + _ ≤ _; exact Nat.le_of_eq rfl) (hb hby at_37) (fun _ _ => ⟨rfl, e323, (by decide : 0 + 0 ≤ _), (by decide : 0 + 0 ≤ _)⟩)
                        dsimp only [Pt.U, Pt.locs, Pt.cells, Pt.slots] at X325 l325 y325 z325 st325 hQ325
                        subst l325 y325 z325
                        obtain ⟨hv325, N325q, e325⟩ := hQ325
                        have N326 := Fr.app N324 N325q
                        rw [show (own_f3 (4 : Int32) (6 : Int32)) = (0 : Int32) from by first | rfl | decide | simp [own_f3]] at hv325
                        subst hv325
                        obtain ⟨fs, hr, hrun, hended, hW, hsame⟩ := X325.leave (v := some (.int (1 : Int32))) (fun h => by rw [Bd.returns] at h; cases h)
                        refine ⟨_, _, k318 _ ?_, hrun, hended, _, _, rfl, ?_, ⟨_, rfl⟩, hW, hsame.mono (by decide) (by decide)⟩
                        · show Steps p.tables e below (s₁.setTop (mkF m 15 #[.val (.int p1), .val (.int p2), .val (.int (4 : Int32)), .unset, .unset, .unset] [(.int (6 : Int32))])) _
                          refine XS.istoreN X0.here hx rfl (hb hby at_15) rfl (l' := #[.val (.int p1), .val (.int p2), .val (.int (4 : Int32)), .val (.int (6 : Int32)), .unset, .unset]) rfl ?_
                          show Steps p.tables e below (s₁.setTop (mkF m 16 #[.val (.int p1), .val (.int p2), .val (.int (4 : Int32)), .val (.int (6 : Int32)), .unset, .unset] [])) _
                          refine XS.iloadN X0.here hx rfl (hb hby at_16) rfl ?_
                          show Steps p.tables e below (s₁.setTop (mkF m 17 #[.val (.int p1), .val (.int p2), .val (.int (4 : Int32)), .val (.int (6 : Int32)), .unset, .unset] [(.int (4 : Int32))])) _
                          refine st319 _ ?_
                          show Steps p.tables e below (T319.setTop (mkF m 20 #[.val (.int p1), .val (.int p2), .val (.int (4 : Int32)), .val (.int (6 : Int32)), .unset, .unset] [(.ref w_IMPLICIT)])) _
                          refine XS.astore X319.here hx rfl (hb hby at_20) rfl rfl (l' := #[.val (.int p1), .val (.int p2), .val (.int (4 : Int32)), .val (.int (6 : Int32)), .val (.ref w_IMPLICIT), .unset]) rfl ?_
                          show Steps p.tables e below (T319.setTop (mkF m 22 #[.val (.int p1), .val (.int p2), .val (.int (4 : Int32)), .val (.int (6 : Int32)), .val (.ref w_IMPLICIT), .unset] [])) _
                          refine XS.iloadN X319.here hx rfl (hb hby at_22) rfl ?_
                          show Steps p.tables e below (T319.setTop (mkF m 23 #[.val (.int p1), .val (.int p2), .val (.int (4 : Int32)), .val (.int (6 : Int32)), .val (.ref w_IMPLICIT), .unset] [(.int (6 : Int32))])) _
                          refine st321 _ ?_
                          show Steps p.tables e below (T321.setTop (mkF m 26 #[.val (.int p1), .val (.int p2), .val (.int (4 : Int32)), .val (.int (6 : Int32)), .val (.ref w_IMPLICIT), .unset] [(.ref w_INSERT_INTENTION)])) _
                          refine XS.astore X321.here hx rfl (hb hby at_26) rfl rfl (l' := #[.val (.int p1), .val (.int p2), .val (.int (4 : Int32)), .val (.int (6 : Int32)), .val (.ref w_IMPLICIT), .val (.ref w_INSERT_INTENTION)]) rfl ?_
                          show Steps p.tables e below (T321.setTop (mkF m 28 #[.val (.int p1), .val (.int p2), .val (.int (4 : Int32)), .val (.int (6 : Int32)), .val (.ref w_IMPLICIT), .val (.ref w_INSERT_INTENTION)] [])) _
                          refine XS.aload X321.here hx rfl (hb hby at_28) rfl rfl ?_
                          show Steps p.tables e below (T321.setTop (mkF m 30 #[.val (.int p1), .val (.int p2), .val (.int (4 : Int32)), .val (.int (6 : Int32)), .val (.ref w_IMPLICIT), .val (.ref w_INSERT_INTENTION)] [(.ref w_IMPLICIT)])) _
                          refine XS.aload X321.here hx rfl (hb hby at_30) rfl rfl ?_
                          show Steps p.tables e below (T321.setTop (mkF m 32 #[.val (.int p1), .val (.int p2), .val (.int (4 : Int32)), .val (.int (6 : Int32)), .val (.ref w_IMPLICIT), .val (.ref w_INSERT_INTENTION)] [(.ref w_INSERT_INTENTION), (.ref w_IMPLICIT)])) _
                          refine st323.trans ?_
                          show Steps p.tables e below (T323.setTop (mkF m 35 #[.val (.int p1), .val (.int p2), .val (.int (4 : Int32)), .val (.int (6 : Int32)), .val (.ref w_IMPLICIT), .val (.ref w_INSERT_INTENTION)] [(.int (0 : Int32))])) _
                          refine XS.iloadN X323.here hx rfl (hb hby at_35) rfl ?_
                          show Steps p.tables e below (T323.setTop (mkF m 36 #[.val (.int p1), .val (.int p2), .val (.int (4 : Int32)), .val (.int (6 : Int32)), .val (.ref w_IMPLICIT), .val (.ref w_INSERT_INTENTION)] [(.int (4 : Int32)), (.int (0 : Int32))])) _
                          refine XS.iloadN X323.here hx rfl (hb hby at_36) rfl ?_
                          show Steps p.tables e below (T323.setTop (mkF m 37 #[.val (.int p1), .val (.int p2), .val (.int (4 : Int32)), .val (.int (6 : Int32)), .val (.ref w_IMPLICIT), .val (.ref w_INSERT_INTENTION)] [(.int (6 : Int32)), (.int (4 : Int32)), (.int (0 : Int32))])) _
                          refine st325 _ ?_
                          show Steps p.tables e below (T325.setTop (mkF m 40 #[.val (.int p1), .val (.int p2), .val (.int (4 : Int32)), .val (.int (6 : Int32)), .val (.ref w_IMPLICIT), .val (.ref w_INSERT_INTENTION)] [(.int (0 : Int32)), (.int (0 : Int32))])) _
                          refine XS.icmpNo X325.here hx rfl (hb hby at_40) rfl (teq (by decide : (0 : Int32) = (0 : Int32))).2 ?_
                          show Steps p.tables e below (T325.setTop (mkF m 43 #[.val (.int p1), .val (.int p2), .val (.int (4 : Int32)), .val (.int (6 : Int32)), .val (.ref w_IMPLICIT), .val (.ref w_INSERT_INTENTION)] [])) _
                          refine XS.iconst X325.here hx rfl (hb hby at_43) ?_
                          show Steps p.tables e below (T325.setTop (mkF m 44 #[.val (.int p1), .val (.int p2), .val (.int (4 : Int32)), .val (.int (6 : Int32)), .val (.ref w_IMPLICIT), .val (.ref w_INSERT_INTENTION)] [(.int (1 : Int32))])) _
                          refine XS.goto X325.here hx rfl (pc0 := 44) (pc' := 48) rfl (hb hby at_44) (by decide) (by decide) ?_
                          show Steps p.tables e below (T325.setTop (mkF m 48 #[.val (.int p1), .val (.int p2), .val (.int (4 : Int32)), .val (.int (6 : Int32)), .val (.ref w_IMPLICIT), .val (.ref w_INSERT_INTENTION)] [(.int (1 : Int32))])) _
                          exact retN X325 hx (t := .boolean) Bd.returns (by simp) (hb hby at_48) hr
                        · show own_Q0 Z p1 p2 w_INTENTION w_TABLE w_NEXT_KEY w_RECORD w_IMPLICIT w_GAP w_INSERT_INTENTION h0 n0 _ T325.heap _
                          rw [e325]
                          exact ⟨(by rw [own_f0, if_neg hc1, if_neg hc9, if_neg hc17, if_neg hc25, if_pos hc33, if_neg hc34, if_neg hc35, if_neg hc36, if_neg hc37, if_neg hc38, if_neg hc39]), N326⟩
          ·
            by_cases hc41 : ((p1 &&& (2147483647 : Int32)) - ((p1 &&& (2147483647 : Int32)) / (7 : Int32)) * (7 : Int32)) = (5 : Int32)
            ·
              have k327 : ∀ t, Steps p.tables e below (s₁.setTop (mkF m 7 #[.val (.int p1), .val (.int p2), .unset, .unset, .unset, .unset] [(.int (5 : Int32))])) t → Steps p.tables e below (s₁.setTop (entryFrame m #[(.int p1), (.int p2)] maxLocals)) t := by
                intro t kt
                refine k1 t ?_
                rw [hc41]
                exact kt
              have k328 : ∀ t, Steps p.tables e below (s₁.setTop (mkF m 15 #[.val (.int p1), .val (.int p2), .val (.int (5 : Int32)), .unset, .unset, .unset] [(.int ((p2 &&& (2147483647 : Int32)) - ((p2 &&& (2147483647 : Int32)) / (7 : Int32)) * (7 : Int32)))])) t → Steps p.tables e below (s₁.setTop (entryFrame m #[(.int p1), (.int p2)] maxLocals)) t := by
                intro t kt
                refine k327 t ?_
                show Steps p.tables e below (s₁.setTop (mkF m 7 #[.val (.int p1), .val (.int p2), .unset, .unset, .unset, .unset] [(.int (5 : Int32))])) _
                refine XS.istoreN X0.here hx rfl (hb hby at_7) rfl (l' := #[.val (.int p1), .val (.int p2), .val (.int (5 : Int32)), .unset, .unset, .unset]) rfl ?_
                show Steps p.tables e below (s₁.setTop (mkF m 8 #[.val (.int p1), .val (.int p2), .val (.int (5 : Int32)), .unset, .unset, .unset] [])) _
                refine XS.iloadN X0.here hx rfl (hb hby at_8) rfl ?_
                show Steps p.tables e below (s₁.setTop (mkF m 9 #[.val (.int p1), .val (.int p2), .val (.int (5 : Int32)), .unset, .unset, .unset] [(.int p2)])) _
                refine X0.ldcInt hx hown (mvT hZ (hw _ (List.mem_of_getElem? (i := 0) rfl))) (g := (mkF m 9 #[.val (.int p1), .val (.int p2), .val (.int (5 : Int32)), .unset, .unset, .unset] [(.int p2)])) rfl (hb hby at_9) _ ?_
                show Steps p.tables e below (s₁.setTop (mkF m 11 #[.val (.int p1), .val (.int p2), .val (.int (5 : Int32)), .unset, .unset, .unset] [(.int (2147483647 : Int32)), (.int p2)])) _
                refine XS.iand X0.here hx rfl (hb hby at_11) rfl ?_
                show Steps p.tables e below (s₁.setTop (mkF m 12 #[.val (.int p1), .val (.int p2), .val (.int (5 : Int32)), .unset, .unset, .unset] [(.int (p2 &&& (2147483647 : Int32)))])) _
                refine XS.bipush X0.here hx rfl (hb hby at_12) ?_
                show Steps p.tables e below (s₁.setTop (mkF m 14 #[.val (.int p1), .val (.int p2), .val (.int (5 : Int32)), .unset, .unset, .unset] [(.int (7 : Int32)), (.int (p2 &&& (2147483647 : Int32)))])) _
                refine XS.irem X0.here hx rfl (hb hby at_14) rfl (by decide) ?_
                exact kt
              by_cases hc42 : ((p2 &&& (2147483647 : Int32)) - ((p2 &&& (2147483647 : Int32)) / (7 : Int32)) * (7 : Int32)) = (0 : Int32)
              ·
                have k329 : ∀ t, Steps p.tables e below (s₁.setTop (mkF m 15 #[.val (.int p1), .val (.int p2), .val (.int (5 : Int32)), .unset, .unset, .unset] [(.int (0 : Int32))])) t → Steps p.tables e below (s₁.setTop (entryFrame m #[(.int p1), (.int p2)] maxLocals)) t := by
                  intro t kt
                  refine k328 t ?_
                  rw [hc42]
                  exact kt
                obtain ⟨v330, _, ⟨T330, L330, k330, n330⟩, -, X330, ⟨Lc330, hQ330, l330, y330, z330⟩, st330⟩ := Jvm.LawKit.callS X0 hx (y := (⟨"com/example/kerb/kerb/txn/LockKindCoversPinLaw", "pick", "(I)Lcom/example/kerb/kerb/txn/LockKind;"⟩ : MethodName)) hown (mvT hZ (hw _ (List.mem_of_getElem? (i := 1) rfl))) (mvT hZ (hw _ (List.mem_of_getElem? (i := 2) rfl))) (mvT hZ (hw _ (List.mem_of_getElem? (i := 3) rfl))) (mvT hZ (hw _ (List.mem_of_getElem? (i := 4) rfl))) (by decide) (backOf (W := 0) (own_rm1 l Z a0 hw [] (5 : Int32) w_INTENTION w_TABLE w_NEXT_KEY w_RECORD w_IMPLICIT w_GAP w_INSERT_INTENTION h0 n0 Z0 S_INTENTION S_TABLE S_NEXT_KEY S_RECORD S_IMPLICIT S_GAP S_INSERT_INTENTION) hZ (hw _ (List.mem_of_getElem? (i := 4) rfl)) (hw _ (List.mem_of_getElem? (i := 3) rfl)) (by decide) (by decide)) (g := (mkF m 17 #[.val (.int p1), .val (.int p2), .val (.int (5 : Int32)), .val (.int (0 : Int32)), .unset, .unset] [(.int (5 : Int32))])) rfl (by rw [hml]; rfl) (argsL := [(.int (5 : Int32))]) (rest := []) (lenOf own_pd93 rfl) rfl (by show 2 * 0 + _ ≤ _; exact Nat.le_of_eq rfl) (hb hby at_17) (fun _ _ => ⟨rfl, e0, (by decide : 0 + 0 ≤ _), (by decide : 0 + 0 ≤ _)⟩)
                dsimp only [Pt.U, Pt.locs, Pt.cells, Pt.slots] at X330 l330 y330 z330 st330 hQ330
                subst l330 y330 z330
                obtain ⟨hv330, N330q, e330⟩ := hQ330
                have N331 := Fr.app N0 N330q
                rw [show (own_f1 (5 : Int32) w_INTENTION w_TABLE w_NEXT_KEY w_RECORD w_IMPLICIT w_GAP w_INSERT_INTENTION) = w_GAP from by first | rfl | decide | simp [own_f1]] at hv330
                subst hv330
                obtain ⟨v332, _, ⟨T332, L332, k332, n332⟩, -, X332, ⟨Lc332, hQ332, l332, y332, z332⟩, st332⟩ := Jvm.LawKit.callS X330 hx (y := (⟨"com/example/kerb/kerb/txn/LockKindCoversPinLaw", "pick", "(I)Lcom/example/kerb/kerb/txn/LockKind;"⟩ : MethodName)) hown (mvT hZ (hw _ (List.mem_of_getElem? (i := 1) rfl))) (mvT hZ (hw _ (List.mem_of_getElem? (i := 2) rfl))) (mvT hZ (hw _ (List.mem_of_getElem? (i := 3) rfl))) (mvT hZ (hw _ (List.mem_of_getElem? (i := 4) rfl))) (by decide) (backOf (W := 0) (own_rm1 l Z a0 hw [] (0 : Int32) w_INTENTION w_TABLE w_NEXT_KEY w_RECORD w_IMPLICIT w_GAP w_INSERT_INTENTION h0 n0 Z0 S_INTENTION S_TABLE S_NEXT_KEY S_RECORD S_IMPLICIT S_GAP S_INSERT_INTENTION) hZ (hw _ (List.mem_of_getElem? (i := 4) rfl)) (hw _ (List.mem_of_getElem? (i := 3) rfl)) (by decide) (by decide)) (g := (mkF m 23 #[.val (.int p1), .val (.int p2), .val (.int (5 : Int32)), .val (.int (0 : Int32)), .val (.ref w_GAP), .unset] [(.int (0 : Int32))])) rfl (by rw [hml]; rfl) (argsL := [(.int (0 : Int32))]) (rest := []) (lenOf own_pd93 rfl) rfl (by show 2 * 0 + _ ≤ _; exact Nat.le_of_eq rfl) (hb hby at_23) (fun _ _ => ⟨rfl, e330, (by decide : 0 + 0 ≤ _), (by decide : 0 + 0 ≤ _)⟩)
                dsimp only [Pt.U, Pt.locs, Pt.cells, Pt.slots] at X332 l332 y332 z332 st332 hQ332
                subst l332 y332 z332
                obtain ⟨hv332, N332q, e332⟩ := hQ332
                have N333 := Fr.app N331 N332q
                rw [show (own_f1 (0 : Int32) w_INTENTION w_TABLE w_NEXT_KEY w_RECORD w_IMPLICIT w_GAP w_INSERT_INTENTION) = w_INTENTION from by first | rfl | decide | simp [own_f1]] at hv332
                subst hv332
                obtain ⟨cq334, kq334, q334a, q334b, q334c⟩ := isOf hZ e332 E_w_GAP
                obtain ⟨v334, _, ⟨T334, L334, k334, n334⟩, -, X334, ⟨Lc334, hQ334, l334, y334, z334⟩, st334⟩ := X332.virtualBack hx (y := (⟨"com/example/kerb/kerb/txn/LockKind", "covers", "(Lcom/example/kerb/kerb/txn/LockKind;)Z"⟩ : MethodName)) (z := (⟨"com/example/kerb/kerb/txn/LockKind", "covers", "(Lcom/example/kerb/kerb/txn/LockKind;)Z"⟩ : MethodName)) hown (mvT hZ (hw _ (List.mem_of_getElem? (i := 10) rfl))) (mvT hZ (hw _ (List.mem_of_getElem? (i := 11) rfl))) (notFace_of_selects (args := #[]) (mvT hZ (hw _ (List.mem_of_getElem? (i := 13) rfl)))) (mvT hZ (hw _ (List.mem_of_getElem? (i := 13) rfl))) (mvT hZ (hw _ (List.mem_of_getElem? (i := 12) rfl))) (by decide) (backOf (W := 0) (own_rm2 l Z a0 hw [] w_GAP w_INTENTION (0 : Int32) w_NEXT_KEY w_GAP w_RECORD w_IMPLICIT h0 n0 Z0 F_coversRecord_w_GAP S_NEXT_KEY S_GAP S_RECORD S_IMPLICIT) hZ (hw _ (List.mem_of_getElem? (i := 14) rfl)) (hw _ (List.mem_of_getElem? (i := 6) rfl)) (by decide) (by decide)) q334a q334c (g := (mkF m 32 #[.val (.int p1), .val (.int p2), .val (.int (5 : Int32)), .val (.int (0 : Int32)), .val (.ref w_GAP), .val (.ref w_INTENTION)] [(.ref w_INTENTION), (.ref w_GAP)])) rfl (by rw [hml]; rfl) (Steps.refl _) (argsL := [(.ref w_INTENTION)]) (rest := []) (lenOf own_pd94 rfl) rfl (by show 2 * 0 + _ ≤ _; exact Nat.le_of_eq rfl) (hb hby at_32) (fun _ _ => ⟨rfl, e332, (by decide : 0 + 0 ≤ _), (by decide : 0 + 0 ≤ _)⟩)
                dsimp only [Pt.U, Pt.locs, Pt.cells, Pt.slots] at X334 l334 y334 z334 st334 hQ334
                subst l334 y334 z334
                obtain ⟨hv334, N334q, e334⟩ := hQ334
                have N335 := Fr.app N333 N334q
                rw [show (own_f2 w_GAP w_INTENTION (0 : Int32) w_NEXT_KEY w_GAP w_RECORD w_IMPLICIT) = (0 : Int32) from by first | rfl | decide | simp [own_f2, ne_INTENTION_GAP.symm, ne_NEXT_KEY_GAP.symm]] at hv334
                subst hv334
                obtain ⟨v336, _, ⟨T336, L336, k336, n336⟩, -, X336, ⟨Lc336, hQ336, l336, y336, z336⟩, st336⟩ := Jvm.LawKit.callS X334 hx (y := (⟨"com/example/kerb/kerb/txn/LockKindCoversPinLaw", "expected", "(II)Z"⟩ : MethodName)) hown (mvT hZ (hw _ (List.mem_of_getElem? (i := 19) rfl))) (mvT hZ (hw _ (List.mem_of_getElem? (i := 20) rfl))) (mvT hZ (hw _ (List.mem_of_getElem? (i := 3) rfl))) (mvT hZ (hw _ (List.mem_of_getElem? (i := 21) rfl))) (by decide) (backOf (W := 1) (own_rm3 l Z a0 hw [] (5 : Int32) (0 : Int32) h0 n0 Z0) hZ (hw _ (List.mem_of_getElem? (i := 21) rfl)) (hw _ (List.mem_of_getElem? (i := 3) rfl)) (by decide) (by decide)) (g := (mkF m 37 #[.val (.int p1), .val (.int p2), .val (.int (5 : Int32)), .val (.int (0 : Int32)), .val (.ref w_GAP), .val (.ref w_INTENTION)] [(.int (0 : Int32)), (.int (5 : Int32)), (.int (0 : Int32))])) rfl (by rw [hml]; rfl) (argsL := [(.int (5 : Int32)), (.int (0 : Int32))]) (rest := [(.int (0 : Int32))]) (lenOf own_pd95 rfl) rfl (by show 2 * 0 + _ ≤ _; exact Nat.le_of_eq rfl) (hb hby at_37) (fun _ _ => ⟨rfl, e334, (by decide : 0 + 0 ≤ _), (by decide : 0 + 0 ≤ _)⟩)
                dsimp only [Pt.U, Pt.locs, Pt.cells, Pt.slots] at X336 l336 y336 z336 st336 hQ336
                subst l336 y336 z336
                obtain ⟨hv336, N336q, e336⟩ := hQ336
                have N337 := Fr.app N335 N336q
                rw [show (own_f3 (5 : Int32) (0 : Int32)) = (0 : Int32) from by first | rfl | decide | simp [own_f3]] at hv336
                subst hv336
                obtain ⟨fs, hr, hrun, hended, hW, hsame⟩ := X336.leave (v := some (.int (1 : Int32))) (fun h => by rw [Bd.returns] at h; cases h)
                refine ⟨_, _, k329 _ ?_, hrun, hended, _, _, rfl, ?_, ⟨_, rfl⟩, hW, hsame.mono (by decide) (by decide)⟩
                · show Steps p.tables e below (s₁.setTop (mkF m 15 #[.val (.int p1), .val (.int p2), .val (.int (5 : Int32)), .unset, .unset, .unset] [(.int (0 : Int32))])) _
                  refine XS.istoreN X0.here hx rfl (hb hby at_15) rfl (l' := #[.val (.int p1), .val (.int p2), .val (.int (5 : Int32)), .val (.int (0 : Int32)), .unset, .unset]) rfl ?_
                  show Steps p.tables e below (s₁.setTop (mkF m 16 #[.val (.int p1), .val (.int p2), .val (.int (5 : Int32)), .val (.int (0 : Int32)), .unset, .unset] [])) _
                  refine XS.iloadN X0.here hx rfl (hb hby at_16) rfl ?_
                  show Steps p.tables e below (s₁.setTop (mkF m 17 #[.val (.int p1), .val (.int p2), .val (.int (5 : Int32)), .val (.int (0 : Int32)), .unset, .unset] [(.int (5 : Int32))])) _
                  refine st330 _ ?_
                  show Steps p.tables e below (T330.setTop (mkF m 20 #[.val (.int p1), .val (.int p2), .val (.int (5 : Int32)), .val (.int (0 : Int32)), .unset, .unset] [(.ref w_GAP)])) _
                  refine XS.astore X330.here hx rfl (hb hby at_20) rfl rfl (l' := #[.val (.int p1), .val (.int p2), .val (.int (5 : Int32)), .val (.int (0 : Int32)), .val (.ref w_GAP), .unset]) rfl ?_
                  show Steps p.tables e below (T330.setTop (mkF m 22 #[.val (.int p1), .val (.int p2), .val (.int (5 : Int32)), .val (.int (0 : Int32)), .val (.ref w_GAP), .unset] [])) _
                  refine XS.iloadN X330.here hx rfl (hb hby at_22) rfl ?_
                  show Steps p.tables e below (T330.setTop (mkF m 23 #[.val (.int p1), .val (.int p2), .val (.int (5 : Int32)), .val (.int (0 : Int32)), .val (.ref w_GAP), .unset] [(.int (0 : Int32))])) _
                  refine st332 _ ?_
                  show Steps p.tables e below (T332.setTop (mkF m 26 #[.val (.int p1), .val (.int p2), .val (.int (5 : Int32)), .val (.int (0 : Int32)), .val (.ref w_GAP), .unset] [(.ref w_INTENTION)])) _
                  refine XS.astore X332.here hx rfl (hb hby at_26) rfl rfl (l' := #[.val (.int p1), .val (.int p2), .val (.int (5 : Int32)), .val (.int (0 : Int32)), .val (.ref w_GAP), .val (.ref w_INTENTION)]) rfl ?_
                  show Steps p.tables e below (T332.setTop (mkF m 28 #[.val (.int p1), .val (.int p2), .val (.int (5 : Int32)), .val (.int (0 : Int32)), .val (.ref w_GAP), .val (.ref w_INTENTION)] [])) _
                  refine XS.aload X332.here hx rfl (hb hby at_28) rfl rfl ?_
                  show Steps p.tables e below (T332.setTop (mkF m 30 #[.val (.int p1), .val (.int p2), .val (.int (5 : Int32)), .val (.int (0 : Int32)), .val (.ref w_GAP), .val (.ref w_INTENTION)] [(.ref w_GAP)])) _
                  refine XS.aload X332.here hx rfl (hb hby at_30) rfl rfl ?_
                  show Steps p.tables e below (T332.setTop (mkF m 32 #[.val (.int p1), .val (.int p2), .val (.int (5 : Int32)), .val (.int (0 : Int32)), .val (.ref w_GAP), .val (.ref w_INTENTION)] [(.ref w_INTENTION), (.ref w_GAP)])) _
                  refine st334.trans ?_
                  show Steps p.tables e below (T334.setTop (mkF m 35 #[.val (.int p1), .val (.int p2), .val (.int (5 : Int32)), .val (.int (0 : Int32)), .val (.ref w_GAP), .val (.ref w_INTENTION)] [(.int (0 : Int32))])) _
                  refine XS.iloadN X334.here hx rfl (hb hby at_35) rfl ?_
                  show Steps p.tables e below (T334.setTop (mkF m 36 #[.val (.int p1), .val (.int p2), .val (.int (5 : Int32)), .val (.int (0 : Int32)), .val (.ref w_GAP), .val (.ref w_INTENTION)] [(.int (5 : Int32)), (.int (0 : Int32))])) _
                  refine XS.iloadN X334.here hx rfl (hb hby at_36) rfl ?_
                  show Steps p.tables e below (T334.setTop (mkF m 37 #[.val (.int p1), .val (.int p2), .val (.int (5 : Int32)), .val (.int (0 : Int32)), .val (.ref w_GAP), .val (.ref w_INTENTION)] [(.int (0 : Int32)), (.int (5 : Int32)), (.int (0 : Int32))])) _
                  refine st336 _ ?_
                  show Steps p.tables e below (T336.setTop (mkF m 40 #[.val (.int p1), .val (.int p2), .val (.int (5 : Int32)), .val (.int (0 : Int32)), .val (.ref w_GAP), .val (.ref w_INTENTION)] [(.int (0 : Int32)), (.int (0 : Int32))])) _
                  refine XS.icmpNo X336.here hx rfl (hb hby at_40) rfl (teq (by decide : (0 : Int32) = (0 : Int32))).2 ?_
                  show Steps p.tables e below (T336.setTop (mkF m 43 #[.val (.int p1), .val (.int p2), .val (.int (5 : Int32)), .val (.int (0 : Int32)), .val (.ref w_GAP), .val (.ref w_INTENTION)] [])) _
                  refine XS.iconst X336.here hx rfl (hb hby at_43) ?_
                  show Steps p.tables e below (T336.setTop (mkF m 44 #[.val (.int p1), .val (.int p2), .val (.int (5 : Int32)), .val (.int (0 : Int32)), .val (.ref w_GAP), .val (.ref w_INTENTION)] [(.int (1 : Int32))])) _
                  refine XS.goto X336.here hx rfl (pc0 := 44) (pc' := 48) rfl (hb hby at_44) (by decide) (by decide) ?_
                  show Steps p.tables e below (T336.setTop (mkF m 48 #[.val (.int p1), .val (.int p2), .val (.int (5 : Int32)), .val (.int (0 : Int32)), .val (.ref w_GAP), .val (.ref w_INTENTION)] [(.int (1 : Int32))])) _
                  exact retN X336 hx (t := .boolean) Bd.returns (by simp) (hb hby at_48) hr
                · show own_Q0 Z p1 p2 w_INTENTION w_TABLE w_NEXT_KEY w_RECORD w_IMPLICIT w_GAP w_INSERT_INTENTION h0 n0 _ T336.heap _
                  rw [e336]
                  exact ⟨(by rw [own_f0, if_neg hc1, if_neg hc9, if_neg hc17, if_neg hc25, if_neg hc33, if_pos hc41, if_pos hc42]), N337⟩
              ·
                by_cases hc43 : ((p2 &&& (2147483647 : Int32)) - ((p2 &&& (2147483647 : Int32)) / (7 : Int32)) * (7 : Int32)) = (1 : Int32)
                ·
                  have k338 : ∀ t, Steps p.tables e below (s₁.setTop (mkF m 15 #[.val (.int p1), .val (.int p2), .val (.int (5 : Int32)), .unset, .unset, .unset] [(.int (1 : Int32))])) t → Steps p.tables e below (s₁.setTop (entryFrame m #[(.int p1), (.int p2)] maxLocals)) t := by
                    intro t kt
                    refine k328 t ?_
                    rw [hc43]
                    exact kt
                  obtain ⟨v339, _, ⟨T339, L339, k339, n339⟩, -, X339, ⟨Lc339, hQ339, l339, y339, z339⟩, st339⟩ := Jvm.LawKit.callS X0 hx (y := (⟨"com/example/kerb/kerb/txn/LockKindCoversPinLaw", "pick", "(I)Lcom/example/kerb/kerb/txn/LockKind;"⟩ : MethodName)) hown (mvT hZ (hw _ (List.mem_of_getElem? (i := 1) rfl))) (mvT hZ (hw _ (List.mem_of_getElem? (i := 2) rfl))) (mvT hZ (hw _ (List.mem_of_getElem? (i := 3) rfl))) (mvT hZ (hw _ (List.mem_of_getElem? (i := 4) rfl))) (by decide) (backOf (W := 0) (own_rm1 l Z a0 hw [] (5 : Int32) w_INTENTION w_TABLE w_NEXT_KEY w_RECORD w_IMPLICIT w_GAP w_INSERT_INTENTION h0 n0 Z0 S_INTENTION S_TABLE S_NEXT_KEY S_RECORD S_IMPLICIT S_GAP S_INSERT_INTENTION) hZ (hw _ (List.mem_of_getElem? (i := 4) rfl)) (hw _ (List.mem_of_getElem? (i := 3) rfl)) (by decide) (by decide)) (g := (mkF m 17 #[.val (.int p1), .val (.int p2), .val (.int (5 : Int32)), .val (.int (1 : Int32)), .unset, .unset] [(.int (5 : Int32))])) rfl (by rw [hml]; rfl) (argsL := [(.int (5 : Int32))]) (rest := []) (lenOf own_pd93 rfl) rfl (by show 2 * 0 + _ ≤ _; exact Nat.le_of_eq rfl) (hb hby at_17) (fun _ _ => ⟨rfl, e0, (by decide : 0 + 0 ≤ _), (by decide : 0 + 0 ≤ _)⟩)
                  dsimp only [Pt.U, Pt.locs, Pt.cells, Pt.slots] at X339 l339 y339 z339 st339 hQ339
                  subst l339 y339 z339
                  obtain ⟨hv339, N339q, e339⟩ := hQ339
                  have N340 := Fr.app N0 N339q
                  rw [show (own_f1 (5 : Int32) w_INTENTION w_TABLE w_NEXT_KEY w_RECORD w_IMPLICIT w_GAP w_INSERT_INTENTION) = w_GAP from by first | rfl | decide | simp [own_f1]] at hv339
                  subst hv339
                  obtain ⟨v341, _, ⟨T341, L341, k341, n341⟩, -, X341, ⟨Lc341, hQ341, l341, y341, z341⟩, st341⟩ := Jvm.LawKit.callS X339 hx (y := (⟨"com/example/kerb/kerb/txn/LockKindCoversPinLaw", "pick", "(I)Lcom/example/kerb/kerb/txn/LockKind;"⟩ : MethodName)) hown (mvT hZ (hw _ (List.mem_of_getElem? (i := 1) rfl))) (mvT hZ (hw _ (List.mem_of_getElem? (i := 2) rfl))) (mvT hZ (hw _ (List.mem_of_getElem? (i := 3) rfl))) (mvT hZ (hw _ (List.mem_of_getElem? (i := 4) rfl))) (by decide) (backOf (W := 0) (own_rm1 l Z a0 hw [] (1 : Int32) w_INTENTION w_TABLE w_NEXT_KEY w_RECORD w_IMPLICIT w_GAP w_INSERT_INTENTION h0 n0 Z0 S_INTENTION S_TABLE S_NEXT_KEY S_RECORD S_IMPLICIT S_GAP S_INSERT_INTENTION) hZ (hw _ (List.mem_of_getElem? (i := 4) rfl)) (hw _ (List.mem_of_getElem? (i := 3) rfl)) (by decide) (by decide)) (g := (mkF m 23 #[.val (.int p1), .val (.int p2), .val (.int (5 : Int32)), .val (.int (1 : Int32)), .val (.ref w_GAP), .unset] [(.int (1 : Int32))])) rfl (by rw [hml]; rfl) (argsL := [(.int (1 : Int32))]) (rest := []) (lenOf own_pd93 rfl) rfl (by show 2 * 0 + _ ≤ _; exact Nat.le_of_eq rfl) (hb hby at_23) (fun _ _ => ⟨rfl, e339, (by decide : 0 + 0 ≤ _), (by decide : 0 + 0 ≤ _)⟩)
                  dsimp only [Pt.U, Pt.locs, Pt.cells, Pt.slots] at X341 l341 y341 z341 st341 hQ341
                  subst l341 y341 z341
                  obtain ⟨hv341, N341q, e341⟩ := hQ341
                  have N342 := Fr.app N340 N341q
                  rw [show (own_f1 (1 : Int32) w_INTENTION w_TABLE w_NEXT_KEY w_RECORD w_IMPLICIT w_GAP w_INSERT_INTENTION) = w_TABLE from by first | rfl | decide | simp [own_f1]] at hv341
                  subst hv341
                  obtain ⟨cq343, kq343, q343a, q343b, q343c⟩ := isOf hZ e341 E_w_GAP
                  obtain ⟨v343, _, ⟨T343, L343, k343, n343⟩, -, X343, ⟨Lc343, hQ343, l343, y343, z343⟩, st343⟩ := X341.virtualBack hx (y := (⟨"com/example/kerb/kerb/txn/LockKind", "covers", "(Lcom/example/kerb/kerb/txn/LockKind;)Z"⟩ : MethodName)) (z := (⟨"com/example/kerb/kerb/txn/LockKind", "covers", "(Lcom/example/kerb/kerb/txn/LockKind;)Z"⟩ : MethodName)) hown (mvT hZ (hw _ (List.mem_of_getElem? (i := 10) rfl))) (mvT hZ (hw _ (List.mem_of_getElem? (i := 11) rfl))) (notFace_of_selects (args := #[]) (mvT hZ (hw _ (List.mem_of_getElem? (i := 13) rfl)))) (mvT hZ (hw _ (List.mem_of_getElem? (i := 13) rfl))) (mvT hZ (hw _ (List.mem_of_getElem? (i := 12) rfl))) (by decide) (backOf (W := 0) (own_rm2 l Z a0 hw [] w_GAP w_TABLE (0 : Int32) w_NEXT_KEY w_GAP w_RECORD w_IMPLICIT h0 n0 Z0 F_coversRecord_w_GAP S_NEXT_KEY S_GAP S_RECORD S_IMPLICIT) hZ (hw _ (List.mem_of_getElem? (i := 14) rfl)) (hw _ (List.mem_of_getElem? (i := 6) rfl)) (by decide) (by decide)) q343a q343c (g := (mkF m 32 #[.val (.int p1), .val (.int p2), .val (.int (5 : Int32)), .val (.int (1 : Int32)), .val (.ref w_GAP), .val (.ref w_TABLE)] [(.ref w_TABLE), (.ref w_GAP)])) rfl (by rw [hml]; rfl) (Steps.refl _) (argsL := [(.ref w_TABLE)]) (rest := []) (lenOf own_pd94 rfl) rfl (by show 2 * 0 + _ ≤ _; exact Nat.le_of_eq rfl) (hb hby at_32) (fun _ _ => ⟨rfl, e341, (by decide : 0 + 0 ≤ _), (by decide : 0 + 0 ≤ _)⟩)
                  dsimp only [Pt.U, Pt.locs, Pt.cells, Pt.slots] at X343 l343 y343 z343 st343 hQ343
                  subst l343 y343 z343
                  obtain ⟨hv343, N343q, e343⟩ := hQ343
                  have N344 := Fr.app N342 N343q
                  rw [show (own_f2 w_GAP w_TABLE (0 : Int32) w_NEXT_KEY w_GAP w_RECORD w_IMPLICIT) = (0 : Int32) from by first | rfl | decide | simp [own_f2, ne_NEXT_KEY_GAP.symm, ne_TABLE_GAP.symm]] at hv343
                  subst hv343
                  obtain ⟨v345, _, ⟨T345, L345, k345, n345⟩, -, X345, ⟨Lc345, hQ345, l345, y345, z345⟩, st345⟩ := Jvm.LawKit.callS X343 hx (y := (⟨"com/example/kerb/kerb/txn/LockKindCoversPinLaw", "expected", "(II)Z"⟩ : MethodName)) hown (mvT hZ (hw _ (List.mem_of_getElem? (i := 19) rfl))) (mvT hZ (hw _ (List.mem_of_getElem? (i := 20) rfl))) (mvT hZ (hw _ (List.mem_of_getElem? (i := 3) rfl))) (mvT hZ (hw _ (List.mem_of_getElem? (i := 21) rfl))) (by decide) (backOf (W := 1) (own_rm3 l Z a0 hw [] (5 : Int32) (1 : Int32) h0 n0 Z0) hZ (hw _ (List.mem_of_getElem? (i := 21) rfl)) (hw _ (List.mem_of_getElem? (i := 3) rfl)) (by decide) (by decide)) (g := (mkF m 37 #[.val (.int p1), .val (.int p2), .val (.int (5 : Int32)), .val (.int (1 : Int32)), .val (.ref w_GAP), .val (.ref w_TABLE)] [(.int (1 : Int32)), (.int (5 : Int32)), (.int (0 : Int32))])) rfl (by rw [hml]; rfl) (argsL := [(.int (5 : Int32)), (.int (1 : Int32))]) (rest := [(.int (0 : Int32))]) (lenOf own_pd95 rfl) rfl (by show 2 * 0 + _ ≤ _; exact Nat.le_of_eq rfl) (hb hby at_37) (fun _ _ => ⟨rfl, e343, (by decide : 0 + 0 ≤ _), (by decide : 0 + 0 ≤ _)⟩)
                  dsimp only [Pt.U, Pt.locs, Pt.cells, Pt.slots] at X345 l345 y345 z345 st345 hQ345
                  subst l345 y345 z345
                  obtain ⟨hv345, N345q, e345⟩ := hQ345
                  have N346 := Fr.app N344 N345q
                  rw [show (own_f3 (5 : Int32) (1 : Int32)) = (0 : Int32) from by first | rfl | decide | simp [own_f3]] at hv345
                  subst hv345
                  obtain ⟨fs, hr, hrun, hended, hW, hsame⟩ := X345.leave (v := some (.int (1 : Int32))) (fun h => by rw [Bd.returns] at h; cases h)
                  refine ⟨_, _, k338 _ ?_, hrun, hended, _, _, rfl, ?_, ⟨_, rfl⟩, hW, hsame.mono (by decide) (by decide)⟩
                  · show Steps p.tables e below (s₁.setTop (mkF m 15 #[.val (.int p1), .val (.int p2), .val (.int (5 : Int32)), .unset, .unset, .unset] [(.int (1 : Int32))])) _
                    refine XS.istoreN X0.here hx rfl (hb hby at_15) rfl (l' := #[.val (.int p1), .val (.int p2), .val (.int (5 : Int32)), .val (.int (1 : Int32)), .unset, .unset]) rfl ?_
                    show Steps p.tables e below (s₁.setTop (mkF m 16 #[.val (.int p1), .val (.int p2), .val (.int (5 : Int32)), .val (.int (1 : Int32)), .unset, .unset] [])) _
                    refine XS.iloadN X0.here hx rfl (hb hby at_16) rfl ?_
                    show Steps p.tables e below (s₁.setTop (mkF m 17 #[.val (.int p1), .val (.int p2), .val (.int (5 : Int32)), .val (.int (1 : Int32)), .unset, .unset] [(.int (5 : Int32))])) _
                    refine st339 _ ?_
                    show Steps p.tables e below (T339.setTop (mkF m 20 #[.val (.int p1), .val (.int p2), .val (.int (5 : Int32)), .val (.int (1 : Int32)), .unset, .unset] [(.ref w_GAP)])) _
                    refine XS.astore X339.here hx rfl (hb hby at_20) rfl rfl (l' := #[.val (.int p1), .val (.int p2), .val (.int (5 : Int32)), .val (.int (1 : Int32)), .val (.ref w_GAP), .unset]) rfl ?_
                    show Steps p.tables e below (T339.setTop (mkF m 22 #[.val (.int p1), .val (.int p2), .val (.int (5 : Int32)), .val (.int (1 : Int32)), .val (.ref w_GAP), .unset] [])) _
                    refine XS.iloadN X339.here hx rfl (hb hby at_22) rfl ?_
                    show Steps p.tables e below (T339.setTop (mkF m 23 #[.val (.int p1), .val (.int p2), .val (.int (5 : Int32)), .val (.int (1 : Int32)), .val (.ref w_GAP), .unset] [(.int (1 : Int32))])) _
                    refine st341 _ ?_
                    show Steps p.tables e below (T341.setTop (mkF m 26 #[.val (.int p1), .val (.int p2), .val (.int (5 : Int32)), .val (.int (1 : Int32)), .val (.ref w_GAP), .unset] [(.ref w_TABLE)])) _
                    refine XS.astore X341.here hx rfl (hb hby at_26) rfl rfl (l' := #[.val (.int p1), .val (.int p2), .val (.int (5 : Int32)), .val (.int (1 : Int32)), .val (.ref w_GAP), .val (.ref w_TABLE)]) rfl ?_
                    show Steps p.tables e below (T341.setTop (mkF m 28 #[.val (.int p1), .val (.int p2), .val (.int (5 : Int32)), .val (.int (1 : Int32)), .val (.ref w_GAP), .val (.ref w_TABLE)] [])) _
                    refine XS.aload X341.here hx rfl (hb hby at_28) rfl rfl ?_
                    show Steps p.tables e below (T341.setTop (mkF m 30 #[.val (.int p1), .val (.int p2), .val (.int (5 : Int32)), .val (.int (1 : Int32)), .val (.ref w_GAP), .val (.ref w_TABLE)] [(.ref w_GAP)])) _
                    refine XS.aload X341.here hx rfl (hb hby at_30) rfl rfl ?_
                    show Steps p.tables e below (T341.setTop (mkF m 32 #[.val (.int p1), .val (.int p2), .val (.int (5 : Int32)), .val (.int (1 : Int32)), .val (.ref w_GAP), .val (.ref w_TABLE)] [(.ref w_TABLE), (.ref w_GAP)])) _
                    refine st343.trans ?_
                    show Steps p.tables e below (T343.setTop (mkF m 35 #[.val (.int p1), .val (.int p2), .val (.int (5 : Int32)), .val (.int (1 : Int32)), .val (.ref w_GAP), .val (.ref w_TABLE)] [(.int (0 : Int32))])) _
                    refine XS.iloadN X343.here hx rfl (hb hby at_35) rfl ?_
                    show Steps p.tables e below (T343.setTop (mkF m 36 #[.val (.int p1), .val (.int p2), .val (.int (5 : Int32)), .val (.int (1 : Int32)), .val (.ref w_GAP), .val (.ref w_TABLE)] [(.int (5 : Int32)), (.int (0 : Int32))])) _
                    refine XS.iloadN X343.here hx rfl (hb hby at_36) rfl ?_
                    show Steps p.tables e below (T343.setTop (mkF m 37 #[.val (.int p1), .val (.int p2), .val (.int (5 : Int32)), .val (.int (1 : Int32)), .val (.ref w_GAP), .val (.ref w_TABLE)] [(.int (1 : Int32)), (.int (5 : Int32)), (.int (0 : Int32))])) _
                    refine st345 _ ?_
                    show Steps p.tables e below (T345.setTop (mkF m 40 #[.val (.int p1), .val (.int p2), .val (.int (5 : Int32)), .val (.int (1 : Int32)), .val (.ref w_GAP), .val (.ref w_TABLE)] [(.int (0 : Int32)), (.int (0 : Int32))])) _
                    refine XS.icmpNo X345.here hx rfl (hb hby at_40) rfl (teq (by decide : (0 : Int32) = (0 : Int32))).2 ?_
                    show Steps p.tables e below (T345.setTop (mkF m 43 #[.val (.int p1), .val (.int p2), .val (.int (5 : Int32)), .val (.int (1 : Int32)), .val (.ref w_GAP), .val (.ref w_TABLE)] [])) _
                    refine XS.iconst X345.here hx rfl (hb hby at_43) ?_
                    show Steps p.tables e below (T345.setTop (mkF m 44 #[.val (.int p1), .val (.int p2), .val (.int (5 : Int32)), .val (.int (1 : Int32)), .val (.ref w_GAP), .val (.ref w_TABLE)] [(.int (1 : Int32))])) _
                    refine XS.goto X345.here hx rfl (pc0 := 44) (pc' := 48) rfl (hb hby at_44) (by decide) (by decide) ?_
                    show Steps p.tables e below (T345.setTop (mkF m 48 #[.val (.int p1), .val (.int p2), .val (.int (5 : Int32)), .val (.int (1 : Int32)), .val (.ref w_GAP), .val (.ref w_TABLE)] [(.int (1 : Int32))])) _
                    exact retN X345 hx (t := .boolean) Bd.returns (by simp) (hb hby at_48) hr
                  · show own_Q0 Z p1 p2 w_INTENTION w_TABLE w_NEXT_KEY w_RECORD w_IMPLICIT w_GAP w_INSERT_INTENTION h0 n0 _ T345.heap _
                    rw [e345]
                    exact ⟨(by rw [own_f0, if_neg hc1, if_neg hc9, if_neg hc17, if_neg hc25, if_neg hc33, if_pos hc41, if_neg hc42, if_pos hc43]), N346⟩
                ·
                  by_cases hc44 : ((p2 &&& (2147483647 : Int32)) - ((p2 &&& (2147483647 : Int32)) / (7 : Int32)) * (7 : Int32)) = (2 : Int32)
                  ·
                    have k347 : ∀ t, Steps p.tables e below (s₁.setTop (mkF m 15 #[.val (.int p1), .val (.int p2), .val (.int (5 : Int32)), .unset, .unset, .unset] [(.int (2 : Int32))])) t → Steps p.tables e below (s₁.setTop (entryFrame m #[(.int p1), (.int p2)] maxLocals)) t := by
                      intro t kt
                      refine k328 t ?_
                      rw [hc44]
                      exact kt
                    obtain ⟨v348, _, ⟨T348, L348, k348, n348⟩, -, X348, ⟨Lc348, hQ348, l348, y348, z348⟩, st348⟩ := Jvm.LawKit.callS X0 hx (y := (⟨"com/example/kerb/kerb/txn/LockKindCoversPinLaw", "pick", "(I)Lcom/example/kerb/kerb/txn/LockKind;"⟩ : MethodName)) hown (mvT hZ (hw _ (List.mem_of_getElem? (i := 1) rfl))) (mvT hZ (hw _ (List.mem_of_getElem? (i := 2) rfl))) (mvT hZ (hw _ (List.mem_of_getElem? (i := 3) rfl))) (mvT hZ (hw _ (List.mem_of_getElem? (i := 4) rfl))) (by decide) (backOf (W := 0) (own_rm1 l Z a0 hw [] (5 : Int32) w_INTENTION w_TABLE w_NEXT_KEY w_RECORD w_IMPLICIT w_GAP w_INSERT_INTENTION h0 n0 Z0 S_INTENTION S_TABLE S_NEXT_KEY S_RECORD S_IMPLICIT S_GAP S_INSERT_INTENTION) hZ (hw _ (List.mem_of_getElem? (i := 4) rfl)) (hw _ (List.mem_of_getElem? (i := 3) rfl)) (by decide) (by decide)) (g := (mkF m 17 #[.val (.int p1), .val (.int p2), .val (.int (5 : Int32)), .val (.int (2 : Int32)), .unset, .unset] [(.int (5 : Int32))])) rfl (by rw [hml]; rfl) (argsL := [(.int (5 : Int32))]) (rest := []) (lenOf own_pd93 rfl) rfl (by show 2 * 0 + _ ≤ _; exact Nat.le_of_eq rfl) (hb hby at_17) (fun _ _ => ⟨rfl, e0, (by decide : 0 + 0 ≤ _), (by decide : 0 + 0 ≤ _)⟩)
                    dsimp only [Pt.U, Pt.locs, Pt.cells, Pt.slots] at X348 l348 y348 z348 st348 hQ348
                    subst l348 y348 z348
                    obtain ⟨hv348, N348q, e348⟩ := hQ348
                    have N349 := Fr.app N0 N348q
                    rw [show (own_f1 (5 : Int32) w_INTENTION w_TABLE w_NEXT_KEY w_RECORD w_IMPLICIT w_GAP w_INSERT_INTENTION) = w_GAP from by first | rfl | decide | simp [own_f1]] at hv348
                    subst hv348
                    obtain ⟨v350, _, ⟨T350, L350, k350, n350⟩, -, X350, ⟨Lc350, hQ350, l350, y350, z350⟩, st350⟩ := Jvm.LawKit.callS X348 hx (y := (⟨"com/example/kerb/kerb/txn/LockKindCoversPinLaw", "pick", "(I)Lcom/example/kerb/kerb/txn/LockKind;"⟩ : MethodName)) hown (mvT hZ (hw _ (List.mem_of_getElem? (i := 1) rfl))) (mvT hZ (hw _ (List.mem_of_getElem? (i := 2) rfl))) (mvT hZ (hw _ (List.mem_of_getElem? (i := 3) rfl))) (mvT hZ (hw _ (List.mem_of_getElem? (i := 4) rfl))) (by decide) (backOf (W := 0) (own_rm1 l Z a0 hw [] (2 : Int32) w_INTENTION w_TABLE w_NEXT_KEY w_RECORD w_IMPLICIT w_GAP w_INSERT_INTENTION h0 n0 Z0 S_INTENTION S_TABLE S_NEXT_KEY S_RECORD S_IMPLICIT S_GAP S_INSERT_INTENTION) hZ (hw _ (List.mem_of_getElem? (i := 4) rfl)) (hw _ (List.mem_of_getElem? (i := 3) rfl)) (by decide) (by decide)) (g := (mkF m 23 #[.val (.int p1), .val (.int p2), .val (.int (5 : Int32)), .val (.int (2 : Int32)), .val (.ref w_GAP), .unset] [(.int (2 : Int32))])) rfl (by rw [hml]; rfl) (argsL := [(.int (2 : Int32))]) (rest := []) (lenOf own_pd93 rfl) rfl (by show 2 * 0 + _ ≤ _; exact Nat.le_of_eq rfl) (hb hby at_23) (fun _ _ => ⟨rfl, e348, (by decide : 0 + 0 ≤ _), (by decide : 0 + 0 ≤ _)⟩)
                    dsimp only [Pt.U, Pt.locs, Pt.cells, Pt.slots] at X350 l350 y350 z350 st350 hQ350
                    subst l350 y350 z350
                    obtain ⟨hv350, N350q, e350⟩ := hQ350
                    have N351 := Fr.app N349 N350q
                    rw [show (own_f1 (2 : Int32) w_INTENTION w_TABLE w_NEXT_KEY w_RECORD w_IMPLICIT w_GAP w_INSERT_INTENTION) = w_NEXT_KEY from by first | rfl | decide | simp [own_f1]] at hv350
                    subst hv350
                    obtain ⟨cq352, kq352, q352a, q352b, q352c⟩ := isOf hZ e350 E_w_GAP
                    obtain ⟨v352, _, ⟨T352, L352, k352, n352⟩, -, X352, ⟨Lc352, hQ352, l352, y352, z352⟩, st352⟩ := X350.virtualBack hx (y := (⟨"com/example/kerb/kerb/txn/LockKind", "covers", "(Lcom/example/kerb/kerb/txn/LockKind;)Z"⟩ : MethodName)) (z := (⟨"com/example/kerb/kerb/txn/LockKind", "covers", "(Lcom/example/kerb/kerb/txn/LockKind;)Z"⟩ : MethodName)) hown (mvT hZ (hw _ (List.mem_of_getElem? (i := 10) rfl))) (mvT hZ (hw _ (List.mem_of_getElem? (i := 11) rfl))) (notFace_of_selects (args := #[]) (mvT hZ (hw _ (List.mem_of_getElem? (i := 13) rfl)))) (mvT hZ (hw _ (List.mem_of_getElem? (i := 13) rfl))) (mvT hZ (hw _ (List.mem_of_getElem? (i := 12) rfl))) (by decide) (backOf (W := 0) (own_rm2 l Z a0 hw [] w_GAP w_NEXT_KEY (0 : Int32) w_NEXT_KEY w_GAP w_RECORD w_IMPLICIT h0 n0 Z0 F_coversRecord_w_GAP S_NEXT_KEY S_GAP S_RECORD S_IMPLICIT) hZ (hw _ (List.mem_of_getElem? (i := 14) rfl)) (hw _ (List.mem_of_getElem? (i := 6) rfl)) (by decide) (by decide)) q352a q352c (g := (mkF m 32 #[.val (.int p1), .val (.int p2), .val (.int (5 : Int32)), .val (.int (2 : Int32)), .val (.ref w_GAP), .val (.ref w_NEXT_KEY)] [(.ref w_NEXT_KEY), (.ref w_GAP)])) rfl (by rw [hml]; rfl) (Steps.refl _) (argsL := [(.ref w_NEXT_KEY)]) (rest := []) (lenOf own_pd94 rfl) rfl (by show 2 * 0 + _ ≤ _; exact Nat.le_of_eq rfl) (hb hby at_32) (fun _ _ => ⟨rfl, e350, (by decide : 0 + 0 ≤ _), (by decide : 0 + 0 ≤ _)⟩)
                    dsimp only [Pt.U, Pt.locs, Pt.cells, Pt.slots] at X352 l352 y352 z352 st352 hQ352
                    subst l352 y352 z352
                    obtain ⟨hv352, N352q, e352⟩ := hQ352
                    have N353 := Fr.app N351 N352q
                    rw [show (own_f2 w_GAP w_NEXT_KEY (0 : Int32) w_NEXT_KEY w_GAP w_RECORD w_IMPLICIT) = (0 : Int32) from by first | rfl | decide | simp [own_f2, ne_NEXT_KEY_GAP.symm]] at hv352
                    subst hv352
                    obtain ⟨v354, _, ⟨T354, L354, k354, n354⟩, -, X354, ⟨Lc354, hQ354, l354, y354, z354⟩, st354⟩ := Jvm.LawKit.callS X352 hx (y := (⟨"com/example/kerb/kerb/txn/LockKindCoversPinLaw", "expected", "(II)Z"⟩ : MethodName)) hown (mvT hZ (hw _ (List.mem_of_getElem? (i := 19) rfl))) (mvT hZ (hw _ (List.mem_of_getElem? (i := 20) rfl))) (mvT hZ (hw _ (List.mem_of_getElem? (i := 3) rfl))) (mvT hZ (hw _ (List.mem_of_getElem? (i := 21) rfl))) (by decide) (backOf (W := 1) (own_rm3 l Z a0 hw [] (5 : Int32) (2 : Int32) h0 n0 Z0) hZ (hw _ (List.mem_of_getElem? (i := 21) rfl)) (hw _ (List.mem_of_getElem? (i := 3) rfl)) (by decide) (by decide)) (g := (mkF m 37 #[.val (.int p1), .val (.int p2), .val (.int (5 : Int32)), .val (.int (2 : Int32)), .val (.ref w_GAP), .val (.ref w_NEXT_KEY)] [(.int (2 : Int32)), (.int (5 : Int32)), (.int (0 : Int32))])) rfl (by rw [hml]; rfl) (argsL := [(.int (5 : Int32)), (.int (2 : Int32))]) (rest := [(.int (0 : Int32))]) (lenOf own_pd95 rfl) rfl (by show 2 * 0 + _ ≤ _; exact Nat.le_of_eq rfl) (hb hby at_37) (fun _ _ => ⟨rfl, e352, (by decide : 0 + 0 ≤ _), (by decide : 0 + 0 ≤ _)⟩)
                    dsimp only [Pt.U, Pt.locs, Pt.cells, Pt.slots] at X354 l354 y354 z354 st354 hQ354
                    subst l354 y354 z354
                    obtain ⟨hv354, N354q, e354⟩ := hQ354
                    have N355 := Fr.app N353 N354q
                    rw [show (own_f3 (5 : Int32) (2 : Int32)) = (0 : Int32) from by first | rfl | decide | simp [own_f3]] at hv354
                    subst hv354
                    obtain ⟨fs, hr, hrun, hended, hW, hsame⟩ := X354.leave (v := some (.int (1 : Int32))) (fun h => by rw [Bd.returns] at h; cases h)
                    refine ⟨_, _, k347 _ ?_, hrun, hended, _, _, rfl, ?_, ⟨_, rfl⟩, hW, hsame.mono (by decide) (by decide)⟩
                    · show Steps p.tables e below (s₁.setTop (mkF m 15 #[.val (.int p1), .val (.int p2), .val (.int (5 : Int32)), .unset, .unset, .unset] [(.int (2 : Int32))])) _
                      refine XS.istoreN X0.here hx rfl (hb hby at_15) rfl (l' := #[.val (.int p1), .val (.int p2), .val (.int (5 : Int32)), .val (.int (2 : Int32)), .unset, .unset]) rfl ?_
                      show Steps p.tables e below (s₁.setTop (mkF m 16 #[.val (.int p1), .val (.int p2), .val (.int (5 : Int32)), .val (.int (2 : Int32)), .unset, .unset] [])) _
                      refine XS.iloadN X0.here hx rfl (hb hby at_16) rfl ?_
                      show Steps p.tables e below (s₁.setTop (mkF m 17 #[.val (.int p1), .val (.int p2), .val (.int (5 : Int32)), .val (.int (2 : Int32)), .unset, .unset] [(.int (5 : Int32))])) _
                      refine st348 _ ?_
                      show Steps p.tables e below (T348.setTop (mkF m 20 #[.val (.int p1), .val (.int p2), .val (.int (5 : Int32)), .val (.int (2 : Int32)), .unset, .unset] [(.ref w_GAP)])) _
                      refine XS.astore X348.here hx rfl (hb hby at_20) rfl rfl (l' := #[.val (.int p1), .val (.int p2), .val (.int (5 : Int32)), .val (.int (2 : Int32)), .val (.ref w_GAP), .unset]) rfl ?_
                      show Steps p.tables e below (T348.setTop (mkF m 22 #[.val (.int p1), .val (.int p2), .val (.int (5 : Int32)), .val (.int (2 : Int32)), .val (.ref w_GAP), .unset] [])) _
                      refine XS.iloadN X348.here hx rfl (hb hby at_22) rfl ?_
                      show Steps p.tables e below (T348.setTop (mkF m 23 #[.val (.int p1), .val (.int p2), .val (.int (5 : Int32)), .val (.int (2 : Int32)), .val (.ref w_GAP), .unset] [(.int (2 : Int32))])) _
                      refine st350 _ ?_
                      show Steps p.tables e below (T350.setTop (mkF m 26 #[.val (.int p1), .val (.int p2), .val (.int (5 : Int32)), .val (.int (2 : Int32)), .val (.ref w_GAP), .unset] [(.ref w_NEXT_KEY)])) _
                      refine XS.astore X350.here hx rfl (hb hby at_26) rfl rfl (l' := #[.val (.int p1), .val (.int p2), .val (.int (5 : Int32)), .val (.int (2 : Int32)), .val (.ref w_GAP), .val (.ref w_NEXT_KEY)]) rfl ?_
                      show Steps p.tables e below (T350.setTop (mkF m 28 #[.val (.int p1), .val (.int p2), .val (.int (5 : Int32)), .val (.int (2 : Int32)), .val (.ref w_GAP), .val (.ref w_NEXT_KEY)] [])) _
                      refine XS.aload X350.here hx rfl (hb hby at_28) rfl rfl ?_
                      show Steps p.tables e below (T350.setTop (mkF m 30 #[.val (.int p1), .val (.int p2), .val (.int (5 : Int32)), .val (.int (2 : Int32)), .val (.ref w_GAP), .val (.ref w_NEXT_KEY)] [(.ref w_GAP)])) _
                      refine XS.aload X350.here hx rfl (hb hby at_30) rfl rfl ?_
                      show Steps p.tables e below (T350.setTop (mkF m 32 #[.val (.int p1), .val (.int p2), .val (.int (5 : Int32)), .val (.int (2 : Int32)), .val (.ref w_GAP), .val (.ref w_NEXT_KEY)] [(.ref w_NEXT_KEY), (.ref w_GAP)])) _
                      refine st352.trans ?_
                      show Steps p.tables e below (T352.setTop (mkF m 35 #[.val (.int p1), .val (.int p2), .val (.int (5 : Int32)), .val (.int (2 : Int32)), .val (.ref w_GAP), .val (.ref w_NEXT_KEY)] [(.int (0 : Int32))])) _
                      refine XS.iloadN X352.here hx rfl (hb hby at_35) rfl ?_
                      show Steps p.tables e below (T352.setTop (mkF m 36 #[.val (.int p1), .val (.int p2), .val (.int (5 : Int32)), .val (.int (2 : Int32)), .val (.ref w_GAP), .val (.ref w_NEXT_KEY)] [(.int (5 : Int32)), (.int (0 : Int32))])) _
                      refine XS.iloadN X352.here hx rfl (hb hby at_36) rfl ?_
                      show Steps p.tables e below (T352.setTop (mkF m 37 #[.val (.int p1), .val (.int p2), .val (.int (5 : Int32)), .val (.int (2 : Int32)), .val (.ref w_GAP), .val (.ref w_NEXT_KEY)] [(.int (2 : Int32)), (.int (5 : Int32)), (.int (0 : Int32))])) _
                      refine st354 _ ?_
                      show Steps p.tables e below (T354.setTop (mkF m 40 #[.val (.int p1), .val (.int p2), .val (.int (5 : Int32)), .val (.int (2 : Int32)), .val (.ref w_GAP), .val (.ref w_NEXT_KEY)] [(.int (0 : Int32)), (.int (0 : Int32))])) _
                      refine XS.icmpNo X354.here hx rfl (hb hby at_40) rfl (teq (by decide : (0 : Int32) = (0 : Int32))).2 ?_
                      show Steps p.tables e below (T354.setTop (mkF m 43 #[.val (.int p1), .val (.int p2), .val (.int (5 : Int32)), .val (.int (2 : Int32)), .val (.ref w_GAP), .val (.ref w_NEXT_KEY)] [])) _
                      refine XS.iconst X354.here hx rfl (hb hby at_43) ?_
                      show Steps p.tables e below (T354.setTop (mkF m 44 #[.val (.int p1), .val (.int p2), .val (.int (5 : Int32)), .val (.int (2 : Int32)), .val (.ref w_GAP), .val (.ref w_NEXT_KEY)] [(.int (1 : Int32))])) _
                      refine XS.goto X354.here hx rfl (pc0 := 44) (pc' := 48) rfl (hb hby at_44) (by decide) (by decide) ?_
                      show Steps p.tables e below (T354.setTop (mkF m 48 #[.val (.int p1), .val (.int p2), .val (.int (5 : Int32)), .val (.int (2 : Int32)), .val (.ref w_GAP), .val (.ref w_NEXT_KEY)] [(.int (1 : Int32))])) _
                      exact retN X354 hx (t := .boolean) Bd.returns (by simp) (hb hby at_48) hr
                    · show own_Q0 Z p1 p2 w_INTENTION w_TABLE w_NEXT_KEY w_RECORD w_IMPLICIT w_GAP w_INSERT_INTENTION h0 n0 _ T354.heap _
                      rw [e354]
                      exact ⟨(by rw [own_f0, if_neg hc1, if_neg hc9, if_neg hc17, if_neg hc25, if_neg hc33, if_pos hc41, if_neg hc42, if_neg hc43, if_pos hc44]), N355⟩
                  ·
                    by_cases hc45 : ((p2 &&& (2147483647 : Int32)) - ((p2 &&& (2147483647 : Int32)) / (7 : Int32)) * (7 : Int32)) = (3 : Int32)
                    ·
                      have k356 : ∀ t, Steps p.tables e below (s₁.setTop (mkF m 15 #[.val (.int p1), .val (.int p2), .val (.int (5 : Int32)), .unset, .unset, .unset] [(.int (3 : Int32))])) t → Steps p.tables e below (s₁.setTop (entryFrame m #[(.int p1), (.int p2)] maxLocals)) t := by
                        intro t kt
                        refine k328 t ?_
                        rw [hc45]
                        exact kt
                      obtain ⟨v357, _, ⟨T357, L357, k357, n357⟩, -, X357, ⟨Lc357, hQ357, l357, y357, z357⟩, st357⟩ := Jvm.LawKit.callS X0 hx (y := (⟨"com/example/kerb/kerb/txn/LockKindCoversPinLaw", "pick", "(I)Lcom/example/kerb/kerb/txn/LockKind;"⟩ : MethodName)) hown (mvT hZ (hw _ (List.mem_of_getElem? (i := 1) rfl))) (mvT hZ (hw _ (List.mem_of_getElem? (i := 2) rfl))) (mvT hZ (hw _ (List.mem_of_getElem? (i := 3) rfl))) (mvT hZ (hw _ (List.mem_of_getElem? (i := 4) rfl))) (by decide) (backOf (W := 0) (own_rm1 l Z a0 hw [] (5 : Int32) w_INTENTION w_TABLE w_NEXT_KEY w_RECORD w_IMPLICIT w_GAP w_INSERT_INTENTION h0 n0 Z0 S_INTENTION S_TABLE S_NEXT_KEY S_RECORD S_IMPLICIT S_GAP S_INSERT_INTENTION) hZ (hw _ (List.mem_of_getElem? (i := 4) rfl)) (hw _ (List.mem_of_getElem? (i := 3) rfl)) (by decide) (by decide)) (g := (mkF m 17 #[.val (.int p1), .val (.int p2), .val (.int (5 : Int32)), .val (.int (3 : Int32)), .unset, .unset] [(.int (5 : Int32))])) rfl (by rw [hml]; rfl) (argsL := [(.int (5 : Int32))]) (rest := []) (lenOf own_pd93 rfl) rfl (by show 2 * 0 + _ ≤ _; exact Nat.le_of_eq rfl) (hb hby at_17) (fun _ _ => ⟨rfl, e0, (by decide : 0 + 0 ≤ _), (by decide : 0 + 0 ≤ _)⟩)
                      dsimp only [Pt.U, Pt.locs, Pt.cells, Pt.slots] at X357 l357 y357 z357 st357 hQ357
                      subst l357 y357 z357
                      obtain ⟨hv357, N357q, e357⟩ := hQ357
                      have N358 := Fr.app N0 N357q
                      rw [show (own_f1 (5 : Int32) w_INTENTION w_TABLE w_NEXT_KEY w_RECORD w_IMPLICIT w_GAP w_INSERT_INTENTION) = w_GAP from by first | rfl | decide | simp [own_f1]] at hv357
                      subst hv357
                      obtain ⟨v359, _, ⟨T359, L359, k359, n359⟩, -, X359, ⟨Lc359, hQ359, l359, y359, z359⟩, st359⟩ := Jvm.LawKit.callS X357 hx (y := (⟨"com/example/kerb/kerb/txn/LockKindCoversPinLaw", "pick", "(I)Lcom/example/kerb/kerb/txn/LockKind;"⟩ : MethodName)) hown (mvT hZ (hw _ (List.mem_of_getElem? (i := 1) rfl))) (mvT hZ (hw _ (List.mem_of_getElem? (i := 2) rfl))) (mvT hZ (hw _ (List.mem_of_getElem? (i := 3) rfl))) (mvT hZ (hw _ (List.mem_of_getElem? (i := 4) rfl))) (by decide) (backOf (W := 0) (own_rm1 l Z a0 hw [] (3 : Int32) w_INTENTION w_TABLE w_NEXT_KEY w_RECORD w_IMPLICIT w_GAP w_INSERT_INTENTION h0 n0 Z0 S_INTENTION S_TABLE S_NEXT_KEY S_RECORD S_IMPLICIT S_GAP S_INSERT_INTENTION) hZ (hw _ (List.mem_of_getElem? (i := 4) rfl)) (hw _ (List.mem_of_getElem? (i := 3) rfl)) (by decide) (by decide)) (g := (mkF m 23 #[.val (.int p1), .val (.int p2), .val (.int (5 : Int32)), .val (.int (3 : Int32)), .val (.ref w_GAP), .unset] [(.int (3 : Int32))])) rfl (by rw [hml]; rfl) (argsL := [(.int (3 : Int32))]) (rest := []) (lenOf own_pd93 rfl) rfl (by show 2 * 0 + _ ≤ _; exact Nat.le_of_eq rfl) (hb hby at_23) (fun _ _ => ⟨rfl, e357, (by decide : 0 + 0 ≤ _), (by decide : 0 + 0 ≤ _)⟩)
                      dsimp only [Pt.U, Pt.locs, Pt.cells, Pt.slots] at X359 l359 y359 z359 st359 hQ359
                      subst l359 y359 z359
                      obtain ⟨hv359, N359q, e359⟩ := hQ359
                      have N360 := Fr.app N358 N359q
                      rw [show (own_f1 (3 : Int32) w_INTENTION w_TABLE w_NEXT_KEY w_RECORD w_IMPLICIT w_GAP w_INSERT_INTENTION) = w_RECORD from by first | rfl | decide | simp [own_f1]] at hv359
                      subst hv359
                      obtain ⟨cq361, kq361, q361a, q361b, q361c⟩ := isOf hZ e359 E_w_GAP
                      obtain ⟨v361, _, ⟨T361, L361, k361, n361⟩, -, X361, ⟨Lc361, hQ361, l361, y361, z361⟩, st361⟩ := X359.virtualBack hx (y := (⟨"com/example/kerb/kerb/txn/LockKind", "covers", "(Lcom/example/kerb/kerb/txn/LockKind;)Z"⟩ : MethodName)) (z := (⟨"com/example/kerb/kerb/txn/LockKind", "covers", "(Lcom/example/kerb/kerb/txn/LockKind;)Z"⟩ : MethodName)) hown (mvT hZ (hw _ (List.mem_of_getElem? (i := 10) rfl))) (mvT hZ (hw _ (List.mem_of_getElem? (i := 11) rfl))) (notFace_of_selects (args := #[]) (mvT hZ (hw _ (List.mem_of_getElem? (i := 13) rfl)))) (mvT hZ (hw _ (List.mem_of_getElem? (i := 13) rfl))) (mvT hZ (hw _ (List.mem_of_getElem? (i := 12) rfl))) (by decide) (backOf (W := 0) (own_rm2 l Z a0 hw [] w_GAP w_RECORD (0 : Int32) w_NEXT_KEY w_GAP w_RECORD w_IMPLICIT h0 n0 Z0 F_coversRecord_w_GAP S_NEXT_KEY S_GAP S_RECORD S_IMPLICIT) hZ (hw _ (List.mem_of_getElem? (i := 14) rfl)) (hw _ (List.mem_of_getElem? (i := 6) rfl)) (by decide) (by decide)) q361a q361c (g := (mkF m 32 #[.val (.int p1), .val (.int p2), .val (.int (5 : Int32)), .val (.int (3 : Int32)), .val (.ref w_GAP), .val (.ref w_RECORD)] [(.ref w_RECORD), (.ref w_GAP)])) rfl (by rw [hml]; rfl) (Steps.refl _) (argsL := [(.ref w_RECORD)]) (rest := []) (lenOf own_pd94 rfl) rfl (by show 2 * 0 + _ ≤ _; exact Nat.le_of_eq rfl) (hb hby at_32) (fun _ _ => ⟨rfl, e359, (by decide : 0 + 0 ≤ _), (by decide : 0 + 0 ≤ _)⟩)
                      dsimp only [Pt.U, Pt.locs, Pt.cells, Pt.slots] at X361 l361 y361 z361 st361 hQ361
                      subst l361 y361 z361
                      obtain ⟨hv361, N361q, e361⟩ := hQ361
                      have N362 := Fr.app N360 N361q
                      rw [show (own_f2 w_GAP w_RECORD (0 : Int32) w_NEXT_KEY w_GAP w_RECORD w_IMPLICIT) = (0 : Int32) from by first | rfl | decide | simp [own_f2, ne_NEXT_KEY_GAP.symm, ne_RECORD_GAP.symm]] at hv361
                      subst hv361
                      obtain ⟨v363, _, ⟨T363, L363, k363, n363⟩, -, X363, ⟨Lc363, hQ363, l363, y363, z363⟩, st363⟩ := Jvm.LawKit.callS X361 hx (y := (⟨"com/example/kerb/kerb/txn/LockKindCoversPinLaw", "expected", "(II)Z"⟩ : MethodName)) hown (mvT hZ (hw _ (List.mem_of_getElem? (i := 19) rfl))) (mvT hZ (hw _ (List.mem_of_getElem? (i := 20) rfl))) (mvT hZ (hw _ (List.mem_of_getElem? (i := 3) rfl))) (mvT hZ (hw _ (List.mem_of_getElem? (i := 21) rfl))) (by decide) (backOf (W := 1) (own_rm3 l Z a0 hw [] (5 : Int32) (3 : Int32) h0 n0 Z0) hZ (hw _ (List.mem_of_getElem? (i := 21) rfl)) (hw _ (List.mem_of_getElem? (i := 3) rfl)) (by decide) (by decide)) (g := (mkF m 37 #[.val (.int p1), .val (.int p2), .val (.int (5 : Int32)), .val (.int (3 : Int32)), .val (.ref w_GAP), .val (.ref w_RECORD)] [(.int (3 : Int32)), (.int (5 : Int32)), (.int (0 : Int32))])) rfl (by rw [hml]; rfl) (argsL := [(.int (5 : Int32)), (.int (3 : Int32))]) (rest := [(.int (0 : Int32))]) (lenOf own_pd95 rfl) rfl (by show 2 * 0 + _ ≤ _; exact Nat.le_of_eq rfl) (hb hby at_37) (fun _ _ => ⟨rfl, e361, (by decide : 0 + 0 ≤ _), (by decide : 0 + 0 ≤ _)⟩)
                      dsimp only [Pt.U, Pt.locs, Pt.cells, Pt.slots] at X363 l363 y363 z363 st363 hQ363
                      subst l363 y363 z363
                      obtain ⟨hv363, N363q, e363⟩ := hQ363
                      have N364 := Fr.app N362 N363q
                      rw [show (own_f3 (5 : Int32) (3 : Int32)) = (0 : Int32) from by first | rfl | decide | simp [own_f3]] at hv363
                      subst hv363
                      obtain ⟨fs, hr, hrun, hended, hW, hsame⟩ := X363.leave (v := some (.int (1 : Int32))) (fun h => by rw [Bd.returns] at h; cases h)
                      refine ⟨_, _, k356 _ ?_, hrun, hended, _, _, rfl, ?_, ⟨_, rfl⟩, hW, hsame.mono (by decide) (by decide)⟩
                      · show Steps p.tables e below (s₁.setTop (mkF m 15 #[.val (.int p1), .val (.int p2), .val (.int (5 : Int32)), .unset, .unset, .unset] [(.int (3 : Int32))])) _
                        refine XS.istoreN X0.here hx rfl (hb hby at_15) rfl (l' := #[.val (.int p1), .val (.int p2), .val (.int (5 : Int32)), .val (.int (3 : Int32)), .unset, .unset]) rfl ?_
                        show Steps p.tables e below (s₁.setTop (mkF m 16 #[.val (.int p1), .val (.int p2), .val (.int (5 : Int32)), .val (.int (3 : Int32)), .unset, .unset] [])) _
                        refine XS.iloadN X0.here hx rfl (hb hby at_16) rfl ?_
                        show Steps p.tables e below (s₁.setTop (mkF m 17 #[.val (.int p1), .val (.int p2), .val (.int (5 : Int32)), .val (.int (3 : Int32)), .unset, .unset] [(.int (5 : Int32))])) _
                        refine st357 _ ?_
                        show Steps p.tables e below (T357.setTop (mkF m 20 #[.val (.int p1), .val (.int p2), .val (.int (5 : Int32)), .val (.int (3 : Int32)), .unset, .unset] [(.ref w_GAP)])) _
                        refine XS.astore X357.here hx rfl (hb hby at_20) rfl rfl (l' := #[.val (.int p1), .val (.int p2), .val (.int (5 : Int32)), .val (.int (3 : Int32)), .val (.ref w_GAP), .unset]) rfl ?_
                        show Steps p.tables e below (T357.setTop (mkF m 22 #[.val (.int p1), .val (.int p2), .val (.int (5 : Int32)), .val (.int (3 : Int32)), .val (.ref w_GAP), .unset] [])) _
                        refine XS.iloadN X357.here hx rfl (hb hby at_22) rfl ?_
                        show Steps p.tables e below (T357.setTop (mkF m 23 #[.val (.int p1), .val (.int p2), .val (.int (5 : Int32)), .val (.int (3 : Int32)), .val (.ref w_GAP), .unset] [(.int (3 : Int32))])) _
                        refine st359 _ ?_
                        show Steps p.tables e below (T359.setTop (mkF m 26 #[.val (.int p1), .val (.int p2), .val (.int (5 : Int32)), .val (.int (3 : Int32)), .val (.ref w_GAP), .unset] [(.ref w_RECORD)])) _
                        refine XS.astore X359.here hx rfl (hb hby at_26) rfl rfl (l' := #[.val (.int p1), .val (.int p2), .val (.int (5 : Int32)), .val (.int (3 : Int32)), .val (.ref w_GAP), .val (.ref w_RECORD)]) rfl ?_
                        show Steps p.tables e below (T359.setTop (mkF m 28 #[.val (.int p1), .val (.int p2), .val (.int (5 : Int32)), .val (.int (3 : Int32)), .val (.ref w_GAP), .val (.ref w_RECORD)] [])) _
                        refine XS.aload X359.here hx rfl (hb hby at_28) rfl rfl ?_
                        show Steps p.tables e below (T359.setTop (mkF m 30 #[.val (.int p1), .val (.int p2), .val (.int (5 : Int32)), .val (.int (3 : Int32)), .val (.ref w_GAP), .val (.ref w_RECORD)] [(.ref w_GAP)])) _
                        refine XS.aload X359.here hx rfl (hb hby at_30) rfl rfl ?_
                        show Steps p.tables e below (T359.setTop (mkF m 32 #[.val (.int p1), .val (.int p2), .val (.int (5 : Int32)), .val (.int (3 : Int32)), .val (.ref w_GAP), .val (.ref w_RECORD)] [(.ref w_RECORD), (.ref w_GAP)])) _
                        refine st361.trans ?_
                        show Steps p.tables e below (T361.setTop (mkF m 35 #[.val (.int p1), .val (.int p2), .val (.int (5 : Int32)), .val (.int (3 : Int32)), .val (.ref w_GAP), .val (.ref w_RECORD)] [(.int (0 : Int32))])) _
                        refine XS.iloadN X361.here hx rfl (hb hby at_35) rfl ?_
                        show Steps p.tables e below (T361.setTop (mkF m 36 #[.val (.int p1), .val (.int p2), .val (.int (5 : Int32)), .val (.int (3 : Int32)), .val (.ref w_GAP), .val (.ref w_RECORD)] [(.int (5 : Int32)), (.int (0 : Int32))])) _
                        refine XS.iloadN X361.here hx rfl (hb hby at_36) rfl ?_
                        show Steps p.tables e below (T361.setTop (mkF m 37 #[.val (.int p1), .val (.int p2), .val (.int (5 : Int32)), .val (.int (3 : Int32)), .val (.ref w_GAP), .val (.ref w_RECORD)] [(.int (3 : Int32)), (.int (5 : Int32)), (.int (0 : Int32))])) _
                        refine st363 _ ?_
                        show Steps p.tables e below (T363.setTop (mkF m 40 #[.val (.int p1), .val (.int p2), .val (.int (5 : Int32)), .val (.int (3 : Int32)), .val (.ref w_GAP), .val (.ref w_RECORD)] [(.int (0 : Int32)), (.int (0 : Int32))])) _
                        refine XS.icmpNo X363.here hx rfl (hb hby at_40) rfl (teq (by decide : (0 : Int32) = (0 : Int32))).2 ?_
                        show Steps p.tables e below (T363.setTop (mkF m 43 #[.val (.int p1), .val (.int p2), .val (.int (5 : Int32)), .val (.int (3 : Int32)), .val (.ref w_GAP), .val (.ref w_RECORD)] [])) _
                        refine XS.iconst X363.here hx rfl (hb hby at_43) ?_
                        show Steps p.tables e below (T363.setTop (mkF m 44 #[.val (.int p1), .val (.int p2), .val (.int (5 : Int32)), .val (.int (3 : Int32)), .val (.ref w_GAP), .val (.ref w_RECORD)] [(.int (1 : Int32))])) _
                        refine XS.goto X363.here hx rfl (pc0 := 44) (pc' := 48) rfl (hb hby at_44) (by decide) (by decide) ?_
                        show Steps p.tables e below (T363.setTop (mkF m 48 #[.val (.int p1), .val (.int p2), .val (.int (5 : Int32)), .val (.int (3 : Int32)), .val (.ref w_GAP), .val (.ref w_RECORD)] [(.int (1 : Int32))])) _
                        exact retN X363 hx (t := .boolean) Bd.returns (by simp) (hb hby at_48) hr
                      · show own_Q0 Z p1 p2 w_INTENTION w_TABLE w_NEXT_KEY w_RECORD w_IMPLICIT w_GAP w_INSERT_INTENTION h0 n0 _ T363.heap _
                        rw [e363]
                        exact ⟨(by rw [own_f0, if_neg hc1, if_neg hc9, if_neg hc17, if_neg hc25, if_neg hc33, if_pos hc41, if_neg hc42, if_neg hc43, if_neg hc44, if_pos hc45]), N364⟩
                    ·
                      by_cases hc46 : ((p2 &&& (2147483647 : Int32)) - ((p2 &&& (2147483647 : Int32)) / (7 : Int32)) * (7 : Int32)) = (4 : Int32)
                      ·
                        have k365 : ∀ t, Steps p.tables e below (s₁.setTop (mkF m 15 #[.val (.int p1), .val (.int p2), .val (.int (5 : Int32)), .unset, .unset, .unset] [(.int (4 : Int32))])) t → Steps p.tables e below (s₁.setTop (entryFrame m #[(.int p1), (.int p2)] maxLocals)) t := by
                          intro t kt
                          refine k328 t ?_
                          rw [hc46]
                          exact kt
                        obtain ⟨v366, _, ⟨T366, L366, k366, n366⟩, -, X366, ⟨Lc366, hQ366, l366, y366, z366⟩, st366⟩ := Jvm.LawKit.callS X0 hx (y := (⟨"com/example/kerb/kerb/txn/LockKindCoversPinLaw", "pick", "(I)Lcom/example/kerb/kerb/txn/LockKind;"⟩ : MethodName)) hown (mvT hZ (hw _ (List.mem_of_getElem? (i := 1) rfl))) (mvT hZ (hw _ (List.mem_of_getElem? (i := 2) rfl))) (mvT hZ (hw _ (List.mem_of_getElem? (i := 3) rfl))) (mvT hZ (hw _ (List.mem_of_getElem? (i := 4) rfl))) (by decide) (backOf (W := 0) (own_rm1 l Z a0 hw [] (5 : Int32) w_INTENTION w_TABLE w_NEXT_KEY w_RECORD w_IMPLICIT w_GAP w_INSERT_INTENTION h0 n0 Z0 S_INTENTION S_TABLE S_NEXT_KEY S_RECORD S_IMPLICIT S_GAP S_INSERT_INTENTION) hZ (hw _ (List.mem_of_getElem? (i := 4) rfl)) (hw _ (List.mem_of_getElem? (i := 3) rfl)) (by decide) (by decide)) (g := (mkF m 17 #[.val (.int p1), .val (.int p2), .val (.int (5 : Int32)), .val (.int (4 : Int32)), .unset, .unset] [(.int (5 : Int32))])) rfl (by rw [hml]; rfl) (argsL := [(.int (5 : Int32))]) (rest := []) (lenOf own_pd93 rfl) rfl (by show 2 * 0 + _ ≤ _; exact Nat.le_of_eq rfl) (hb hby at_17) (fun _ _ => ⟨rfl, e0, (by decide : 0 + 0 ≤ _), (by decide : 0 + 0 ≤ _)⟩)
                        dsimp only [Pt.U, Pt.locs, Pt.cells, Pt.slots] at X366 l366 y366 z366 st366 hQ366
                        subst l366 y366 z366
                        obtain ⟨hv366, N366q, e366⟩ := hQ366
                        have N367 := Fr.app N0 N366q
                        rw [show (own_f1 (5 : Int32) w_INTENTION w_TABLE w_NEXT_KEY w_RECORD w_IMPLICIT w_GAP w_INSERT_INTENTION) = w_GAP from by first | rfl | decide | simp [own_f1]] at hv366
                        subst hv366
                        obtain ⟨v368, _, ⟨T368, L368, k368, n368⟩, -, X368, ⟨Lc368, hQ368, l368, y368, z368⟩, st368⟩ := Jvm.LawKit.callS X366 hx (y := (⟨"com/example/kerb/kerb/txn/LockKindCoversPinLaw", "pick", "(I)Lcom/example/kerb/kerb/txn/LockKind;"⟩ : MethodName)) hown (mvT hZ (hw _ (List.mem_of_getElem? (i := 1) rfl))) (mvT hZ (hw _ (List.mem_of_getElem? (i := 2) rfl))) (mvT hZ (hw _ (List.mem_of_getElem? (i := 3) rfl))) (mvT hZ (hw _ (List.mem_of_getElem? (i := 4) rfl))) (by decide) (backOf (W := 0) (own_rm1 l Z a0 hw [] (4 : Int32) w_INTENTION w_TABLE w_NEXT_KEY w_RECORD w_IMPLICIT w_GAP w_INSERT_INTENTION h0 n0 Z0 S_INTENTION S_TABLE S_NEXT_KEY S_RECORD S_IMPLICIT S_GAP S_INSERT_INTENTION) hZ (hw _ (List.mem_of_getElem? (i := 4) rfl)) (hw _ (List.mem_of_getElem? (i := 3) rfl)) (by decide) (by decide)) (g := (mkF m 23 #[.val (.int p1), .val (.int p2), .val (.int (5 : Int32)), .val (.int (4 : Int32)), .val (.ref w_GAP), .unset] [(.int (4 : Int32))])) rfl (by rw [hml]; rfl) (argsL := [(.int (4 : Int32))]) (rest := []) (lenOf own_pd93 rfl) rfl (by show 2 * 0 + _ ≤ _; exact Nat.le_of_eq rfl) (hb hby at_23) (fun _ _ => ⟨rfl, e366, (by decide : 0 + 0 ≤ _), (by decide : 0 + 0 ≤ _)⟩)
                        dsimp only [Pt.U, Pt.locs, Pt.cells, Pt.slots] at X368 l368 y368 z368 st368 hQ368
                        subst l368 y368 z368
                        obtain ⟨hv368, N368q, e368⟩ := hQ368
                        have N369 := Fr.app N367 N368q
                        rw [show (own_f1 (4 : Int32) w_INTENTION w_TABLE w_NEXT_KEY w_RECORD w_IMPLICIT w_GAP w_INSERT_INTENTION) = w_IMPLICIT from by first | rfl | decide | simp [own_f1]] at hv368
                        subst hv368
                        obtain ⟨cq370, kq370, q370a, q370b, q370c⟩ := isOf hZ e368 E_w_GAP
                        obtain ⟨v370, _, ⟨T370, L370, k370, n370⟩, -, X370, ⟨Lc370, hQ370, l370, y370, z370⟩, st370⟩ := X368.virtualBack hx (y := (⟨"com/example/kerb/kerb/txn/LockKind", "covers", "(Lcom/example/kerb/kerb/txn/LockKind;)Z"⟩ : MethodName)) (z := (⟨"com/example/kerb/kerb/txn/LockKind", "covers", "(Lcom/example/kerb/kerb/txn/LockKind;)Z"⟩ : MethodName)) hown (mvT hZ (hw _ (List.mem_of_getElem? (i := 10) rfl))) (mvT hZ (hw _ (List.mem_of_getElem? (i := 11) rfl))) (notFace_of_selects (args := #[]) (mvT hZ (hw _ (List.mem_of_getElem? (i := 13) rfl)))) (mvT hZ (hw _ (List.mem_of_getElem? (i := 13) rfl))) (mvT hZ (hw _ (List.mem_of_getElem? (i := 12) rfl))) (by decide) (backOf (W := 0) (own_rm2 l Z a0 hw [] w_GAP w_IMPLICIT (0 : Int32) w_NEXT_KEY w_GAP w_RECORD w_IMPLICIT h0 n0 Z0 F_coversRecord_w_GAP S_NEXT_KEY S_GAP S_RECORD S_IMPLICIT) hZ (hw _ (List.mem_of_getElem? (i := 14) rfl)) (hw _ (List.mem_of_getElem? (i := 6) rfl)) (by decide) (by decide)) q370a q370c (g := (mkF m 32 #[.val (.int p1), .val (.int p2), .val (.int (5 : Int32)), .val (.int (4 : Int32)), .val (.ref w_GAP), .val (.ref w_IMPLICIT)] [(.ref w_IMPLICIT), (.ref w_GAP)])) rfl (by rw [hml]; rfl) (Steps.refl _) (argsL := [(.ref w_IMPLICIT)]) (rest := []) (lenOf own_pd94 rfl) rfl (by show 2 * 0 + _ ≤ _; exact Nat.le_of_eq rfl) (hb hby at_32) (fun _ _ => ⟨rfl, e368, (by decide : 0 + 0 ≤ _), (by decide : 0 + 0 ≤ _)⟩)
                        dsimp only [Pt.U, Pt.locs, Pt.cells, Pt.slots] at X370 l370 y370 z370 st370 hQ370
                        subst l370 y370 z370
                        obtain ⟨hv370, N370q, e370⟩ := hQ370
                        have N371 := Fr.app N369 N370q
                        rw [show (own_f2 w_GAP w_IMPLICIT (0 : Int32) w_NEXT_KEY w_GAP w_RECORD w_IMPLICIT) = (0 : Int32) from by first | rfl | decide | simp [own_f2, ne_IMPLICIT_GAP.symm, ne_NEXT_KEY_GAP.symm]] at hv370
                        subst hv370
                        obtain ⟨v372, _, ⟨T372, L372, k372, n372⟩, -, X372, ⟨Lc372, hQ372, l372, y372, z372⟩, st372⟩ := Jvm.LawKit.callS X370 hx (y := (⟨"com/example/kerb/kerb/txn/LockKindCoversPinLaw", "expected", "(II)Z"⟩ : MethodName)) hown (mvT hZ (hw _ (List.mem_of_getElem? (i := 19) rfl))) (mvT hZ (hw _ (List.mem_of_getElem? (i := 20) rfl))) (mvT hZ (hw _ (List.mem_of_getElem? (i := 3) rfl))) (mvT hZ (hw _ (List.mem_of_getElem? (i := 21) rfl))) (by decide) (backOf (W := 1) (own_rm3 l Z a0 hw [] (5 : Int32) (4 : Int32) h0 n0 Z0) hZ (hw _ (List.mem_of_getElem? (i := 21) rfl)) (hw _ (List.mem_of_getElem? (i := 3) rfl)) (by decide) (by decide)) (g := (mkF m 37 #[.val (.int p1), .val (.int p2), .val (.int (5 : Int32)), .val (.int (4 : Int32)), .val (.ref w_GAP), .val (.ref w_IMPLICIT)] [(.int (4 : Int32)), (.int (5 : Int32)), (.int (0 : Int32))])) rfl (by rw [hml]; rfl) (argsL := [(.int (5 : Int32)), (.int (4 : Int32))]) (rest := [(.int (0 : Int32))]) (lenOf own_pd95 rfl) rfl (by show 2 * 0 + _ ≤ _; exact Nat.le_of_eq rfl) (hb hby at_37) (fun _ _ => ⟨rfl, e370, (by decide : 0 + 0 ≤ _), (by decide : 0 + 0 ≤ _)⟩)
                        dsimp only [Pt.U, Pt.locs, Pt.cells, Pt.slots] at X372 l372 y372 z372 st372 hQ372
                        subst l372 y372 z372
                        obtain ⟨hv372, N372q, e372⟩ := hQ372
                        have N373 := Fr.app N371 N372q
                        rw [show (own_f3 (5 : Int32) (4 : Int32)) = (0 : Int32) from by first | rfl | decide | simp [own_f3]] at hv372
                        subst hv372
                        obtain ⟨fs, hr, hrun, hended, hW, hsame⟩ := X372.leave (v := some (.int (1 : Int32))) (fun h => by rw [Bd.returns] at h; cases h)
                        refine ⟨_, _, k365 _ ?_, hrun, hended, _, _, rfl, ?_, ⟨_, rfl⟩, hW, hsame.mono (by decide) (by decide)⟩
                        · show Steps p.tables e below (s₁.setTop (mkF m 15 #[.val (.int p1), .val (.int p2), .val (.int (5 : Int32)), .unset, .unset, .unset] [(.int (4 : Int32))])) _
                          refine XS.istoreN X0.here hx rfl (hb hby at_15) rfl (l' := #[.val (.int p1), .val (.int p2), .val (.int (5 : Int32)), .val (.int (4 : Int32)), .unset, .unset]) rfl ?_
                          show Steps p.tables e below (s₁.setTop (mkF m 16 #[.val (.int p1), .val (.int p2), .val (.int (5 : Int32)), .val (.int (4 : Int32)), .unset, .unset] [])) _
                          refine XS.iloadN X0.here hx rfl (hb hby at_16) rfl ?_
                          show Steps p.tables e below (s₁.setTop (mkF m 17 #[.val (.int p1), .val (.int p2), .val (.int (5 : Int32)), .val (.int (4 : Int32)), .unset, .unset] [(.int (5 : Int32))])) _
                          refine st366 _ ?_
                          show Steps p.tables e below (T366.setTop (mkF m 20 #[.val (.int p1), .val (.int p2), .val (.int (5 : Int32)), .val (.int (4 : Int32)), .unset, .unset] [(.ref w_GAP)])) _
                          refine XS.astore X366.here hx rfl (hb hby at_20) rfl rfl (l' := #[.val (.int p1), .val (.int p2), .val (.int (5 : Int32)), .val (.int (4 : Int32)), .val (.ref w_GAP), .unset]) rfl ?_
                          show Steps p.tables e below (T366.setTop (mkF m 22 #[.val (.int p1), .val (.int p2), .val (.int (5 : Int32)), .val (.int (4 : Int32)), .val (.ref w_GAP), .unset] [])) _
                          refine XS.iloadN X366.here hx rfl (hb hby at_22) rfl ?_
                          show Steps p.tables e below (T366.setTop (mkF m 23 #[.val (.int p1), .val (.int p2), .val (.int (5 : Int32)), .val (.int (4 : Int32)), .val (.ref w_GAP), .unset] [(.int (4 : Int32))])) _
                          refine st368 _ ?_
                          show Steps p.tables e below (T368.setTop (mkF m 26 #[.val (.int p1), .val (.int p2), .val (.int (5 : Int32)), .val (.int (4 : Int32)), .val (.ref w_GAP), .unset] [(.ref w_IMPLICIT)])) _
                          refine XS.astore X368.here hx rfl (hb hby at_26) rfl rfl (l' := #[.val (.int p1), .val (.int p2), .val (.int (5 : Int32)), .val (.int (4 : Int32)), .val (.ref w_GAP), .val (.ref w_IMPLICIT)]) rfl ?_
                          show Steps p.tables e below (T368.setTop (mkF m 28 #[.val (.int p1), .val (.int p2), .val (.int (5 : Int32)), .val (.int (4 : Int32)), .val (.ref w_GAP), .val (.ref w_IMPLICIT)] [])) _
                          refine XS.aload X368.here hx rfl (hb hby at_28) rfl rfl ?_
                          show Steps p.tables e below (T368.setTop (mkF m 30 #[.val (.int p1), .val (.int p2), .val (.int (5 : Int32)), .val (.int (4 : Int32)), .val (.ref w_GAP), .val (.ref w_IMPLICIT)] [(.ref w_GAP)])) _
                          refine XS.aload X368.here hx rfl (hb hby at_30) rfl rfl ?_
                          show Steps p.tables e below (T368.setTop (mkF m 32 #[.val (.int p1), .val (.int p2), .val (.int (5 : Int32)), .val (.int (4 : Int32)), .val (.ref w_GAP), .val (.ref w_IMPLICIT)] [(.ref w_IMPLICIT), (.ref w_GAP)])) _
                          refine st370.trans ?_
                          show Steps p.tables e below (T370.setTop (mkF m 35 #[.val (.int p1), .val (.int p2), .val (.int (5 : Int32)), .val (.int (4 : Int32)), .val (.ref w_GAP), .val (.ref w_IMPLICIT)] [(.int (0 : Int32))])) _
                          refine XS.iloadN X370.here hx rfl (hb hby at_35) rfl ?_
                          show Steps p.tables e below (T370.setTop (mkF m 36 #[.val (.int p1), .val (.int p2), .val (.int (5 : Int32)), .val (.int (4 : Int32)), .val (.ref w_GAP), .val (.ref w_IMPLICIT)] [(.int (5 : Int32)), (.int (0 : Int32))])) _
                          refine XS.iloadN X370.here hx rfl (hb hby at_36) rfl ?_
                          show Steps p.tables e below (T370.setTop (mkF m 37 #[.val (.int p1), .val (.int p2), .val (.int (5 : Int32)), .val (.int (4 : Int32)), .val (.ref w_GAP), .val (.ref w_IMPLICIT)] [(.int (4 : Int32)), (.int (5 : Int32)), (.int (0 : Int32))])) _
                          refine st372 _ ?_
                          show Steps p.tables e below (T372.setTop (mkF m 40 #[.val (.int p1), .val (.int p2), .val (.int (5 : Int32)), .val (.int (4 : Int32)), .val (.ref w_GAP), .val (.ref w_IMPLICIT)] [(.int (0 : Int32)), (.int (0 : Int32))])) _
                          refine XS.icmpNo X372.here hx rfl (hb hby at_40) rfl (teq (by decide : (0 : Int32) = (0 : Int32))).2 ?_
                          show Steps p.tables e below (T372.setTop (mkF m 43 #[.val (.int p1), .val (.int p2), .val (.int (5 : Int32)), .val (.int (4 : Int32)), .val (.ref w_GAP), .val (.ref w_IMPLICIT)] [])) _
                          refine XS.iconst X372.here hx rfl (hb hby at_43) ?_
                          show Steps p.tables e below (T372.setTop (mkF m 44 #[.val (.int p1), .val (.int p2), .val (.int (5 : Int32)), .val (.int (4 : Int32)), .val (.ref w_GAP), .val (.ref w_IMPLICIT)] [(.int (1 : Int32))])) _
                          refine XS.goto X372.here hx rfl (pc0 := 44) (pc' := 48) rfl (hb hby at_44) (by decide) (by decide) ?_
                          show Steps p.tables e below (T372.setTop (mkF m 48 #[.val (.int p1), .val (.int p2), .val (.int (5 : Int32)), .val (.int (4 : Int32)), .val (.ref w_GAP), .val (.ref w_IMPLICIT)] [(.int (1 : Int32))])) _
                          exact retN X372 hx (t := .boolean) Bd.returns (by simp) (hb hby at_48) hr
                        · show own_Q0 Z p1 p2 w_INTENTION w_TABLE w_NEXT_KEY w_RECORD w_IMPLICIT w_GAP w_INSERT_INTENTION h0 n0 _ T372.heap _
                          rw [e372]
                          exact ⟨(by rw [own_f0, if_neg hc1, if_neg hc9, if_neg hc17, if_neg hc25, if_neg hc33, if_pos hc41, if_neg hc42, if_neg hc43, if_neg hc44, if_neg hc45, if_pos hc46]), N373⟩
                      ·
                        by_cases hc47 : ((p2 &&& (2147483647 : Int32)) - ((p2 &&& (2147483647 : Int32)) / (7 : Int32)) * (7 : Int32)) = (5 : Int32)
                        ·
                          have k374 : ∀ t, Steps p.tables e below (s₁.setTop (mkF m 15 #[.val (.int p1), .val (.int p2), .val (.int (5 : Int32)), .unset, .unset, .unset] [(.int (5 : Int32))])) t → Steps p.tables e below (s₁.setTop (entryFrame m #[(.int p1), (.int p2)] maxLocals)) t := by
                            intro t kt
                            refine k328 t ?_
                            rw [hc47]
                            exact kt
                          obtain ⟨v375, _, ⟨T375, L375, k375, n375⟩, -, X375, ⟨Lc375, hQ375, l375, y375, z375⟩, st375⟩ := Jvm.LawKit.callS X0 hx (y := (⟨"com/example/kerb/kerb/txn/LockKindCoversPinLaw", "pick", "(I)Lcom/example/kerb/kerb/txn/LockKind;"⟩ : MethodName)) hown (mvT hZ (hw _ (List.mem_of_getElem? (i := 1) rfl))) (mvT hZ (hw _ (List.mem_of_getElem? (i := 2) rfl))) (mvT hZ (hw _ (List.mem_of_getElem? (i := 3) rfl))) (mvT hZ (hw _ (List.mem_of_getElem? (i := 4) rfl))) (by decide) (backOf (W := 0) (own_rm1 l Z a0 hw [] (5 : Int32) w_INTENTION w_TABLE w_NEXT_KEY w_RECORD w_IMPLICIT w_GAP w_INSERT_INTENTION h0 n0 Z0 S_INTENTION S_TABLE S_NEXT_KEY S_RECORD S_IMPLICIT S_GAP S_INSERT_INTENTION) hZ (hw _ (List.mem_of_getElem? (i := 4) rfl)) (hw _ (List.mem_of_getElem? (i := 3) rfl)) (by decide) (by decide)) (g := (mkF m 17 #[.val (.int p1), .val (.int p2), .val (.int (5 : Int32)), .val (.int (5 : Int32)), .unset, .unset] [(.int (5 : Int32))])) rfl (by rw [hml]; rfl) (argsL := [(.int (5 : Int32))]) (rest := []) (lenOf own_pd93 rfl) rfl (by show 2 * 0 + _ ≤ _; exact Nat.le_of_eq rfl) (hb hby at_17) (fun _ _ => ⟨rfl, e0, (by decide : 0 + 0 ≤ _), (by decide : 0 + 0 ≤ _)⟩)
                          dsimp only [Pt.U, Pt.locs, Pt.cells, Pt.slots] at X375 l375 y375 z375 st375 hQ375
                          subst l375 y375 z375
                          obtain ⟨hv375, N375q, e375⟩ := hQ375
                          have N376 := Fr.app N0 N375q
                          rw [show (own_f1 (5 : Int32) w_INTENTION w_TABLE w_NEXT_KEY w_RECORD w_IMPLICIT w_GAP w_INSERT_INTENTION) = w_GAP from by first | rfl | decide | simp [own_f1]] at hv375
                          subst hv375
                          obtain ⟨v377, _, ⟨T377, L377, k377, n377⟩, -, X377, ⟨Lc377, hQ377, l377, y377, z377⟩, st377⟩ := Jvm.LawKit.callS X375 hx (y := (⟨"com/example/kerb/kerb/txn/LockKindCoversPinLaw", "pick", "(I)Lcom/example/kerb/kerb/txn/LockKind;"⟩ : MethodName)) hown (mvT hZ (hw _ (List.mem_of_getElem? (i := 1) rfl))) (mvT hZ (hw _ (List.mem_of_getElem? (i := 2) rfl))) (mvT hZ (hw _ (List.mem_of_getElem? (i := 3) rfl))) (mvT hZ (hw _ (List.mem_of_getElem? (i := 4) rfl))) (by decide) (backOf (W := 0) (own_rm1 l Z a0 hw [] (5 : Int32) w_INTENTION w_TABLE w_NEXT_KEY w_RECORD w_IMPLICIT w_GAP w_INSERT_INTENTION h0 n0 Z0 S_INTENTION S_TABLE S_NEXT_KEY S_RECORD S_IMPLICIT S_GAP S_INSERT_INTENTION) hZ (hw _ (List.mem_of_getElem? (i := 4) rfl)) (hw _ (List.mem_of_getElem? (i := 3) rfl)) (by decide) (by decide)) (g := (mkF m 23 #[.val (.int p1), .val (.int p2), .val (.int (5 : Int32)), .val (.int (5 : Int32)), .val (.ref w_GAP), .unset] [(.int (5 : Int32))])) rfl (by rw [hml]; rfl) (argsL := [(.int (5 : Int32))]) (rest := []) (lenOf own_pd93 rfl) rfl (by show 2 * 0 + _ ≤ _; exact Nat.le_of_eq rfl) (hb hby at_23) (fun _ _ => ⟨rfl, e375, (by decide : 0 + 0 ≤ _), (by decide : 0 + 0 ≤ _)⟩)
                          dsimp only [Pt.U, Pt.locs, Pt.cells, Pt.slots] at X377 l377 y377 z377 st377 hQ377
                          subst l377 y377 z377
                          obtain ⟨hv377, N377q, e377⟩ := hQ377
                          have N378 := Fr.app N376 N377q
                          rw [show (own_f1 (5 : Int32) w_INTENTION w_TABLE w_NEXT_KEY w_RECORD w_IMPLICIT w_GAP w_INSERT_INTENTION) = w_GAP from by first | rfl | decide | simp [own_f1]] at hv377
                          subst hv377
                          obtain ⟨cq379, kq379, q379a, q379b, q379c⟩ := isOf hZ e377 E_w_GAP
                          obtain ⟨v379, _, ⟨T379, L379, k379, n379⟩, -, X379, ⟨Lc379, hQ379, l379, y379, z379⟩, st379⟩ := X377.virtualBack hx (y := (⟨"com/example/kerb/kerb/txn/LockKind", "covers", "(Lcom/example/kerb/kerb/txn/LockKind;)Z"⟩ : MethodName)) (z := (⟨"com/example/kerb/kerb/txn/LockKind", "covers", "(Lcom/example/kerb/kerb/txn/LockKind;)Z"⟩ : MethodName)) hown (mvT hZ (hw _ (List.mem_of_getElem? (i := 10) rfl))) (mvT hZ (hw _ (List.mem_of_getElem? (i := 11) rfl))) (notFace_of_selects (args := #[]) (mvT hZ (hw _ (List.mem_of_getElem? (i := 13) rfl)))) (mvT hZ (hw _ (List.mem_of_getElem? (i := 13) rfl))) (mvT hZ (hw _ (List.mem_of_getElem? (i := 12) rfl))) (by decide) (backOf (W := 0) (own_rm2 l Z a0 hw [] w_GAP w_GAP (0 : Int32) w_NEXT_KEY w_GAP w_RECORD w_IMPLICIT h0 n0 Z0 F_coversRecord_w_GAP S_NEXT_KEY S_GAP S_RECORD S_IMPLICIT) hZ (hw _ (List.mem_of_getElem? (i := 14) rfl)) (hw _ (List.mem_of_getElem? (i := 6) rfl)) (by decide) (by decide)) q379a q379c (g := (mkF m 32 #[.val (.int p1), .val (.int p2), .val (.int (5 : Int32)), .val (.int (5 : Int32)), .val (.ref w_GAP), .val (.ref w_GAP)] [(.ref w_GAP), (.ref w_GAP)])) rfl (by rw [hml]; rfl) (Steps.refl _) (argsL := [(.ref w_GAP)]) (rest := []) (lenOf own_pd94 rfl) rfl (by show 2 * 0 + _ ≤ _; exact Nat.le_of_eq rfl) (hb hby at_32) (fun _ _ => ⟨rfl, e377, (by decide : 0 + 0 ≤ _), (by decide : 0 + 0 ≤ _)⟩)
                          dsimp only [Pt.U, Pt.locs, Pt.cells, Pt.slots] at X379 l379 y379 z379 st379 hQ379
                          subst l379 y379 z379
                          obtain ⟨hv379, N379q, e379⟩ := hQ379
                          have N380 := Fr.app N378 N379q
                          rw [show (own_f2 w_GAP w_GAP (0 : Int32) w_NEXT_KEY w_GAP w_RECORD w_IMPLICIT) = (1 : Int32) from by first | rfl | decide | simp [own_f2]] at hv379
                          subst hv379
                          obtain ⟨v381, _, ⟨T381, L381, k381, n381⟩, -, X381, ⟨Lc381, hQ381, l381, y381, z381⟩, st381⟩ := Jvm.LawKit.callS X379 hx (y := (⟨"com/example/kerb/kerb/txn/LockKindCoversPinLaw", "expected", "(II)Z"⟩ : MethodName)) hown (mvT hZ (hw _ (List.mem_of_getElem? (i := 19) rfl))) (mvT hZ (hw _ (List.mem_of_getElem? (i := 20) rfl))) (mvT hZ (hw _ (List.mem_of_getElem? (i := 3) rfl))) (mvT hZ (hw _ (List.mem_of_getElem? (i := 21) rfl))) (by decide) (backOf (W := 1) (own_rm3 l Z a0 hw [] (5 : Int32) (5 : Int32) h0 n0 Z0) hZ (hw _ (List.mem_of_getElem? (i := 21) rfl)) (hw _ (List.mem_of_getElem? (i := 3) rfl)) (by decide) (by decide)) (g := (mkF m 37 #[.val (.int p1), .val (.int p2), .val (.int (5 : Int32)), .val (.int (5 : Int32)), .val (.ref w_GAP), .val (.ref w_GAP)] [(.int (5 : Int32)), (.int (5 : Int32)), (.int (1 : Int32))])) rfl (by rw [hml]; rfl) (argsL := [(.int (5 : Int32)), (.int (5 : Int32))]) (rest := [(.int (1 : Int32))]) (lenOf own_pd95 rfl) rfl (by show 2 * 0 + _ ≤ _; exact Nat.le_of_eq rfl) (hb hby at_37) (fun _ _ => ⟨rfl, e379, (by decide : 0 + 0 ≤ _), (by decide : 0 + 0 ≤ _)⟩)
                          dsimp only [Pt.U, Pt.locs, Pt.cells, Pt.slots] at X381 l381 y381 z381 st381 hQ381
                          subst l381 y381 z381
                          obtain ⟨hv381, N381q, e381⟩ := hQ381
                          have N382 := Fr.app N380 N381q
                          rw [show (own_f3 (5 : Int32) (5 : Int32)) = (1 : Int32) from by first | rfl | decide | simp [own_f3]] at hv381
                          subst hv381
                          obtain ⟨fs, hr, hrun, hended, hW, hsame⟩ := X381.leave (v := some (.int (1 : Int32))) (fun h => by rw [Bd.returns] at h; cases h)
                          refine ⟨_, _, k374 _ ?_, hrun, hended, _, _, rfl, ?_, ⟨_, rfl⟩, hW, hsame.mono (by decide) (by decide)⟩
                          · show Steps p.tables e below (s₁.setTop (mkF m 15 #[.val (.int p1), .val (.int p2), .val (.int (5 : Int32)), .unset, .unset, .unset] [(.int (5 : Int32))])) _
                            refine XS.istoreN X0.here hx rfl (hb hby at_15) rfl (l' := #[.val (.int p1), .val (.int p2), .val (.int (5 : Int32)), .val (.int (5 : Int32)), .unset, .unset]) rfl ?_
                            show Steps p.tables e below (s₁.setTop (mkF m 16 #[.val (.int p1), .val (.int p2), .val (.int (5 : Int32)), .val (.int (5 : Int32)), .unset, .unset] [])) _
                            refine XS.iloadN X0.here hx rfl (hb hby at_16) rfl ?_
                            show Steps p.tables e below (s₁.setTop (mkF m 17 #[.val (.int p1), .val (.int p2), .val (.int (5 : Int32)), .val (.int (5 : Int32)), .unset, .unset] [(.int (5 : Int32))])) _
                            refine st375 _ ?_
                            show Steps p.tables e below (T375.setTop (mkF m 20 #[.val (.int p1), .val (.int p2), .val (.int (5 : Int32)), .val (.int (5 : Int32)), .unset, .unset] [(.ref w_GAP)])) _
                            refine XS.astore X375.here hx rfl (hb hby at_20) rfl rfl (l' := #[.val (.int p1), .val (.int p2), .val (.int (5 : Int32)), .val (.int (5 : Int32)), .val (.ref w_GAP), .unset]) rfl ?_
                            show Steps p.tables e below (T375.setTop (mkF m 22 #[.val (.int p1), .val (.int p2), .val (.int (5 : Int32)), .val (.int (5 : Int32)), .val (.ref w_GAP), .unset] [])) _
                            refine XS.iloadN X375.here hx rfl (hb hby at_22) rfl ?_
                            show Steps p.tables e below (T375.setTop (mkF m 23 #[.val (.int p1), .val (.int p2), .val (.int (5 : Int32)), .val (.int (5 : Int32)), .val (.ref w_GAP), .unset] [(.int (5 : Int32))])) _
                            refine st377 _ ?_
                            show Steps p.tables e below (T377.setTop (mkF m 26 #[.val (.int p1), .val (.int p2), .val (.int (5 : Int32)), .val (.int (5 : Int32)), .val (.ref w_GAP), .unset] [(.ref w_GAP)])) _
                            refine XS.astore X377.here hx rfl (hb hby at_26) rfl rfl (l' := #[.val (.int p1), .val (.int p2), .val (.int (5 : Int32)), .val (.int (5 : Int32)), .val (.ref w_GAP), .val (.ref w_GAP)]) rfl ?_
                            show Steps p.tables e below (T377.setTop (mkF m 28 #[.val (.int p1), .val (.int p2), .val (.int (5 : Int32)), .val (.int (5 : Int32)), .val (.ref w_GAP), .val (.ref w_GAP)] [])) _
                            refine XS.aload X377.here hx rfl (hb hby at_28) rfl rfl ?_
                            show Steps p.tables e below (T377.setTop (mkF m 30 #[.val (.int p1), .val (.int p2), .val (.int (5 : Int32)), .val (.int (5 : Int32)), .val (.ref w_GAP), .val (.ref w_GAP)] [(.ref w_GAP)])) _
                            refine XS.aload X377.here hx rfl (hb hby at_30) rfl rfl ?_
                            show Steps p.tables e below (T377.setTop (mkF m 32 #[.val (.int p1), .val (.int p2), .val (.int (5 : Int32)), .val (.int (5 : Int32)), .val (.ref w_GAP), .val (.ref w_GAP)] [(.ref w_GAP), (.ref w_GAP)])) _
                            refine st379.trans ?_
                            show Steps p.tables e below (T379.setTop (mkF m 35 #[.val (.int p1), .val (.int p2), .val (.int (5 : Int32)), .val (.int (5 : Int32)), .val (.ref w_GAP), .val (.ref w_GAP)] [(.int (1 : Int32))])) _
                            refine XS.iloadN X379.here hx rfl (hb hby at_35) rfl ?_
                            show Steps p.tables e below (T379.setTop (mkF m 36 #[.val (.int p1), .val (.int p2), .val (.int (5 : Int32)), .val (.int (5 : Int32)), .val (.ref w_GAP), .val (.ref w_GAP)] [(.int (5 : Int32)), (.int (1 : Int32))])) _
                            refine XS.iloadN X379.here hx rfl (hb hby at_36) rfl ?_
                            show Steps p.tables e below (T379.setTop (mkF m 37 #[.val (.int p1), .val (.int p2), .val (.int (5 : Int32)), .val (.int (5 : Int32)), .val (.ref w_GAP), .val (.ref w_GAP)] [(.int (5 : Int32)), (.int (5 : Int32)), (.int (1 : Int32))])) _
                            refine st381 _ ?_
                            show Steps p.tables e below (T381.setTop (mkF m 40 #[.val (.int p1), .val (.int p2), .val (.int (5 : Int32)), .val (.int (5 : Int32)), .val (.ref w_GAP), .val (.ref w_GAP)] [(.int (1 : Int32)), (.int (1 : Int32))])) _
                            refine XS.icmpNo X381.here hx rfl (hb hby at_40) rfl (teq (by decide : (1 : Int32) = (1 : Int32))).2 ?_
                            show Steps p.tables e below (T381.setTop (mkF m 43 #[.val (.int p1), .val (.int p2), .val (.int (5 : Int32)), .val (.int (5 : Int32)), .val (.ref w_GAP), .val (.ref w_GAP)] [])) _
                            refine XS.iconst X381.here hx rfl (hb hby at_43) ?_
                            show Steps p.tables e below (T381.setTop (mkF m 44 #[.val (.int p1), .val (.int p2), .val (.int (5 : Int32)), .val (.int (5 : Int32)), .val (.ref w_GAP), .val (.ref w_GAP)] [(.int (1 : Int32))])) _
                            refine XS.goto X381.here hx rfl (pc0 := 44) (pc' := 48) rfl (hb hby at_44) (by decide) (by decide) ?_
                            show Steps p.tables e below (T381.setTop (mkF m 48 #[.val (.int p1), .val (.int p2), .val (.int (5 : Int32)), .val (.int (5 : Int32)), .val (.ref w_GAP), .val (.ref w_GAP)] [(.int (1 : Int32))])) _
                            exact retN X381 hx (t := .boolean) Bd.returns (by simp) (hb hby at_48) hr
                          · show own_Q0 Z p1 p2 w_INTENTION w_TABLE w_NEXT_KEY w_RECORD w_IMPLICIT w_GAP w_INSERT_INTENTION h0 n0 _ T381.heap _
                            rw [e381]
                            exact ⟨(by rw [own_f0, if_neg hc1, if_neg hc9, if_neg hc17, if_neg hc25, if_neg hc33, if_pos hc41, if_neg hc42, if_neg hc43, if_neg hc44, if_neg hc45, if_neg hc46, if_pos hc47]), N382⟩
                        ·
                          have hc48 : ((p2 &&& (2147483647 : Int32)) - ((p2 &&& (2147483647 : Int32)) / (7 : Int32)) * (7 : Int32)) = (6 : Int32) := own_exh p2 hc42 hc43 hc44 hc45 hc46 hc47
                          have k383 : ∀ t, Steps p.tables e below (s₁.setTop (mkF m 15 #[.val (.int p1), .val (.int p2), .val (.int (5 : Int32)), .unset, .unset, .unset] [(.int (6 : Int32))])) t → Steps p.tables e below (s₁.setTop (entryFrame m #[(.int p1), (.int p2)] maxLocals)) t := by
                            intro t kt
                            refine k328 t ?_
                            rw [hc48]
                            exact kt
                          obtain ⟨v384, _, ⟨T384, L384, k384, n384⟩, -, X384, ⟨Lc384, hQ384, l384, y384, z384⟩, st384⟩ := Jvm.LawKit.callS X0 hx (y := (⟨"com/example/kerb/kerb/txn/LockKindCoversPinLaw", "pick", "(I)Lcom/example/kerb/kerb/txn/LockKind;"⟩ : MethodName)) hown (mvT hZ (hw _ (List.mem_of_getElem? (i := 1) rfl))) (mvT hZ (hw _ (List.mem_of_getElem? (i := 2) rfl))) (mvT hZ (hw _ (List.mem_of_getElem? (i := 3) rfl))) (mvT hZ (hw _ (List.mem_of_getElem? (i := 4) rfl))) (by decide) (backOf (W := 0) (own_rm1 l Z a0 hw [] (5 : Int32) w_INTENTION w_TABLE w_NEXT_KEY w_RECORD w_IMPLICIT w_GAP w_INSERT_INTENTION h0 n0 Z0 S_INTENTION S_TABLE S_NEXT_KEY S_RECORD S_IMPLICIT S_GAP S_INSERT_INTENTION) hZ (hw _ (List.mem_of_getElem? (i := 4) rfl)) (hw _ (List.mem_of_getElem? (i := 3) rfl)) (by decide) (by decide)) (g := (mkF m 17 #[.val (.int p1), .val (.int p2), .val (.int (5 : Int32)), .val (.int (6 : Int32)), .unset, .unset] [(.int (5 : Int32))])) rfl (by rw [hml]; rfl) (argsL := [(.int (5 : Int32))]) (rest := []) (lenOf own_pd93 rfl) rfl (by show 2 * 0 + _ ≤ _; exact Nat.le_of_eq rfl) (hb hby at_17) (fun _ _ => ⟨rfl, e0, (by decide : 0 + 0 ≤ _), (by decide : 0 + 0 ≤ _)⟩)
                          dsimp only [Pt.U, Pt.locs, Pt.cells, Pt.slots] at X384 l384 y384 z384 st384 hQ384
                          subst l384 y384 z384
                          obtain ⟨hv384, N384q, e384⟩ := hQ384
                          have N385 := Fr.app N0 N384q
                          rw [show (own_f1 (5 : Int32) w_INTENTION w_TABLE w_NEXT_KEY w_RECORD w_IMPLICIT w_GAP w_INSERT_INTENTION) = w_GAP from by first | rfl | decide | simp [own_f1]] at hv384
                          subst hv384
                          obtain ⟨v386, _, ⟨T386, L386, k386, n386⟩, -, X386, ⟨Lc386, hQ386, l386, y386, z386⟩, st386⟩ := Jvm.LawKit.callS X384 hx (y := (⟨"com/example/kerb/kerb/txn/LockKindCoversPinLaw", "pick", "(I)Lcom/example/kerb/kerb/txn/LockKind;"⟩ : MethodName)) hown (mvT hZ (hw _ (List.mem_of_getElem? (i := 1) rfl))) (mvT hZ (hw _ (List.mem_of_getElem? (i := 2) rfl))) (mvT hZ (hw _ (List.mem_of_getElem? (i := 3) rfl))) (mvT hZ (hw _ (List.mem_of_getElem? (i := 4) rfl))) (by decide) (backOf (W := 0) (own_rm1 l Z a0 hw [] (6 : Int32) w_INTENTION w_TABLE w_NEXT_KEY w_RECORD w_IMPLICIT w_GAP w_INSERT_INTENTION h0 n0 Z0 S_INTENTION S_TABLE S_NEXT_KEY S_RECORD S_IMPLICIT S_GAP S_INSERT_INTENTION) hZ (hw _ (List.mem_of_getElem? (i := 4) rfl)) (hw _ (List.mem_of_getElem? (i := 3) rfl)) (by decide) (by decide)) (g := (mkF m 23 #[.val (.int p1), .val (.int p2), .val (.int (5 : Int32)), .val (.int (6 : Int32)), .val (.ref w_GAP), .unset] [(.int (6 : Int32))])) rfl (by rw [hml]; rfl) (argsL := [(.int (6 : Int32))]) (rest := []) (lenOf own_pd93 rfl) rfl (by show 2 * 0 + _ ≤ _; exact Nat.le_of_eq rfl) (hb hby at_23) (fun _ _ => ⟨rfl, e384, (by decide : 0 + 0 ≤ _), (by decide : 0 + 0 ≤ _)⟩)
                          dsimp only [Pt.U, Pt.locs, Pt.cells, Pt.slots] at X386 l386 y386 z386 st386 hQ386
                          subst l386 y386 z386
                          obtain ⟨hv386, N386q, e386⟩ := hQ386
                          have N387 := Fr.app N385 N386q
                          rw [show (own_f1 (6 : Int32) w_INTENTION w_TABLE w_NEXT_KEY w_RECORD w_IMPLICIT w_GAP w_INSERT_INTENTION) = w_INSERT_INTENTION from by first | rfl | decide | simp [own_f1]] at hv386
                          subst hv386
                          obtain ⟨cq388, kq388, q388a, q388b, q388c⟩ := isOf hZ e386 E_w_GAP
                          obtain ⟨v388, _, ⟨T388, L388, k388, n388⟩, -, X388, ⟨Lc388, hQ388, l388, y388, z388⟩, st388⟩ := X386.virtualBack hx (y := (⟨"com/example/kerb/kerb/txn/LockKind", "covers", "(Lcom/example/kerb/kerb/txn/LockKind;)Z"⟩ : MethodName)) (z := (⟨"com/example/kerb/kerb/txn/LockKind", "covers", "(Lcom/example/kerb/kerb/txn/LockKind;)Z"⟩ : MethodName)) hown (mvT hZ (hw _ (List.mem_of_getElem? (i := 10) rfl))) (mvT hZ (hw _ (List.mem_of_getElem? (i := 11) rfl))) (notFace_of_selects (args := #[]) (mvT hZ (hw _ (List.mem_of_getElem? (i := 13) rfl)))) (mvT hZ (hw _ (List.mem_of_getElem? (i := 13) rfl))) (mvT hZ (hw _ (List.mem_of_getElem? (i := 12) rfl))) (by decide) (backOf (W := 0) (own_rm2 l Z a0 hw [] w_GAP w_INSERT_INTENTION (0 : Int32) w_NEXT_KEY w_GAP w_RECORD w_IMPLICIT h0 n0 Z0 F_coversRecord_w_GAP S_NEXT_KEY S_GAP S_RECORD S_IMPLICIT) hZ (hw _ (List.mem_of_getElem? (i := 14) rfl)) (hw _ (List.mem_of_getElem? (i := 6) rfl)) (by decide) (by decide)) q388a q388c (g := (mkF m 32 #[.val (.int p1), .val (.int p2), .val (.int (5 : Int32)), .val (.int (6 : Int32)), .val (.ref w_GAP), .val (.ref w_INSERT_INTENTION)] [(.ref w_INSERT_INTENTION), (.ref w_GAP)])) rfl (by rw [hml]; rfl) (Steps.refl _) (argsL := [(.ref w_INSERT_INTENTION)]) (rest := []) (lenOf own_pd94 rfl) rfl (by show 2 * 0 + _ ≤ _; exact Nat.le_of_eq rfl) (hb hby at_32) (fun _ _ => ⟨rfl, e386, (by decide : 0 + 0 ≤ _), (by decide : 0 + 0 ≤ _)⟩)
                          dsimp only [Pt.U, Pt.locs, Pt.cells, Pt.slots] at X388 l388 y388 z388 st388 hQ388
                          subst l388 y388 z388
                          obtain ⟨hv388, N388q, e388⟩ := hQ388
                          have N389 := Fr.app N387 N388q
                          rw [show (own_f2 w_GAP w_INSERT_INTENTION (0 : Int32) w_NEXT_KEY w_GAP w_RECORD w_IMPLICIT) = (0 : Int32) from by first | rfl | decide | simp [own_f2, ne_GAP_INSERT_INTENTION, ne_NEXT_KEY_GAP.symm]] at hv388
                          subst hv388
                          obtain ⟨v390, _, ⟨T390, L390, k390, n390⟩, -, X390, ⟨Lc390, hQ390, l390, y390, z390⟩, st390⟩ := Jvm.LawKit.callS X388 hx (y := (⟨"com/example/kerb/kerb/txn/LockKindCoversPinLaw", "expected", "(II)Z"⟩ : MethodName)) hown (mvT hZ (hw _ (List.mem_of_getElem? (i := 19) rfl))) (mvT hZ (hw _ (List.mem_of_getElem? (i := 20) rfl))) (mvT hZ (hw _ (List.mem_of_getElem? (i := 3) rfl))) (mvT hZ (hw _ (List.mem_of_getElem? (i := 21) rfl))) (by decide) (backOf (W := 1) (own_rm3 l Z a0 hw [] (5 : Int32) (6 : Int32) h0 n0 Z0) hZ (hw _ (List.mem_of_getElem? (i := 21) rfl)) (hw _ (List.mem_of_getElem? (i := 3) rfl)) (by decide) (by decide)) (g := (mkF m 37 #[.val (.int p1), .val (.int p2), .val (.int (5 : Int32)), .val (.int (6 : Int32)), .val (.ref w_GAP), .val (.ref w_INSERT_INTENTION)] [(.int (6 : Int32)), (.int (5 : Int32)), (.int (0 : Int32))])) rfl (by rw [hml]; rfl) (argsL := [(.int (5 : Int32)), (.int (6 : Int32))]) (rest := [(.int (0 : Int32))]) (lenOf own_pd95 rfl) rfl (by show 2 * 0 + _ ≤ _; exact Nat.le_of_eq rfl) (hb hby at_37) (fun _ _ => ⟨rfl, e388, (by decide : 0 + 0 ≤ _), (by decide : 0 + 0 ≤ _)⟩)
                          dsimp only [Pt.U, Pt.locs, Pt.cells, Pt.slots] at X390 l390 y390 z390 st390 hQ390
                          subst l390 y390 z390
                          obtain ⟨hv390, N390q, e390⟩ := hQ390
                          have N391 := Fr.app N389 N390q
                          rw [show (own_f3 (5 : Int32) (6 : Int32)) = (0 : Int32) from by first | rfl | decide | simp [own_f3]] at hv390
                          subst hv390
                          obtain ⟨fs, hr, hrun, hended, hW, hsame⟩ := X390.leave (v := some (.int (1 : Int32))) (fun h => by rw [Bd.returns] at h; cases h)
                          refine ⟨_, _, k383 _ ?_, hrun, hended, _, _, rfl, ?_, ⟨_, rfl⟩, hW, hsame.mono (by decide) (by decide)⟩
                          · show Steps p.tables e below (s₁.setTop (mkF m 15 #[.val (.int p1), .val (.int p2), .val (.int (5 : Int32)), .unset, .unset, .unset] [(.int (6 : Int32))])) _
                            refine XS.istoreN X0.here hx rfl (hb hby at_15) rfl (l' := #[.val (.int p1), .val (.int p2), .val (.int (5 : Int32)), .val (.int (6 : Int32)), .unset, .unset]) rfl ?_
                            show Steps p.tables e below (s₁.setTop (mkF m 16 #[.val (.int p1), .val (.int p2), .val (.int (5 : Int32)), .val (.int (6 : Int32)), .unset, .unset] [])) _
                            refine XS.iloadN X0.here hx rfl (hb hby at_16) rfl ?_
                            show Steps p.tables e below (s₁.setTop (mkF m 17 #[.val (.int p1), .val (.int p2), .val (.int (5 : Int32)), .val (.int (6 : Int32)), .unset, .unset] [(.int (5 : Int32))])) _
                            refine st384 _ ?_
                            show Steps p.tables e below (T384.setTop (mkF m 20 #[.val (.int p1), .val (.int p2), .val (.int (5 : Int32)), .val (.int (6 : Int32)), .unset, .unset] [(.ref w_GAP)])) _
                            refine XS.astore X384.here hx rfl (hb hby at_20) rfl rfl (l' := #[.val (.int p1), .val (.int p2), .val (.int (5 : Int32)), .val (.int (6 : Int32)), .val (.ref w_GAP), .unset]) rfl ?_
                            show Steps p.tables e below (T384.setTop (mkF m 22 #[.val (.int p1), .val (.int p2), .val (.int (5 : Int32)), .val (.int (6 : Int32)), .val (.ref w_GAP), .unset] [])) _
                            refine XS.iloadN X384.here hx rfl (hb hby at_22) rfl ?_
                            show Steps p.tables e below (T384.setTop (mkF m 23 #[.val (.int p1), .val (.int p2), .val (.int (5 : Int32)), .val (.int (6 : Int32)), .val (.ref w_GAP), .unset] [(.int (6 : Int32))])) _
                            refine st386 _ ?_
                            show Steps p.tables e below (T386.setTop (mkF m 26 #[.val (.int p1), .val (.int p2), .val (.int (5 : Int32)), .val (.int (6 : Int32)), .val (.ref w_GAP), .unset] [(.ref w_INSERT_INTENTION)])) _
                            refine XS.astore X386.here hx rfl (hb hby at_26) rfl rfl (l' := #[.val (.int p1), .val (.int p2), .val (.int (5 : Int32)), .val (.int (6 : Int32)), .val (.ref w_GAP), .val (.ref w_INSERT_INTENTION)]) rfl ?_
                            show Steps p.tables e below (T386.setTop (mkF m 28 #[.val (.int p1), .val (.int p2), .val (.int (5 : Int32)), .val (.int (6 : Int32)), .val (.ref w_GAP), .val (.ref w_INSERT_INTENTION)] [])) _
                            refine XS.aload X386.here hx rfl (hb hby at_28) rfl rfl ?_
                            show Steps p.tables e below (T386.setTop (mkF m 30 #[.val (.int p1), .val (.int p2), .val (.int (5 : Int32)), .val (.int (6 : Int32)), .val (.ref w_GAP), .val (.ref w_INSERT_INTENTION)] [(.ref w_GAP)])) _
                            refine XS.aload X386.here hx rfl (hb hby at_30) rfl rfl ?_
                            show Steps p.tables e below (T386.setTop (mkF m 32 #[.val (.int p1), .val (.int p2), .val (.int (5 : Int32)), .val (.int (6 : Int32)), .val (.ref w_GAP), .val (.ref w_INSERT_INTENTION)] [(.ref w_INSERT_INTENTION), (.ref w_GAP)])) _
                            refine st388.trans ?_
                            show Steps p.tables e below (T388.setTop (mkF m 35 #[.val (.int p1), .val (.int p2), .val (.int (5 : Int32)), .val (.int (6 : Int32)), .val (.ref w_GAP), .val (.ref w_INSERT_INTENTION)] [(.int (0 : Int32))])) _
                            refine XS.iloadN X388.here hx rfl (hb hby at_35) rfl ?_
                            show Steps p.tables e below (T388.setTop (mkF m 36 #[.val (.int p1), .val (.int p2), .val (.int (5 : Int32)), .val (.int (6 : Int32)), .val (.ref w_GAP), .val (.ref w_INSERT_INTENTION)] [(.int (5 : Int32)), (.int (0 : Int32))])) _
                            refine XS.iloadN X388.here hx rfl (hb hby at_36) rfl ?_
                            show Steps p.tables e below (T388.setTop (mkF m 37 #[.val (.int p1), .val (.int p2), .val (.int (5 : Int32)), .val (.int (6 : Int32)), .val (.ref w_GAP), .val (.ref w_INSERT_INTENTION)] [(.int (6 : Int32)), (.int (5 : Int32)), (.int (0 : Int32))])) _
                            refine st390 _ ?_
                            show Steps p.tables e below (T390.setTop (mkF m 40 #[.val (.int p1), .val (.int p2), .val (.int (5 : Int32)), .val (.int (6 : Int32)), .val (.ref w_GAP), .val (.ref w_INSERT_INTENTION)] [(.int (0 : Int32)), (.int (0 : Int32))])) _
                            refine XS.icmpNo X390.here hx rfl (hb hby at_40) rfl (teq (by decide : (0 : Int32) = (0 : Int32))).2 ?_
                            show Steps p.tables e below (T390.setTop (mkF m 43 #[.val (.int p1), .val (.int p2), .val (.int (5 : Int32)), .val (.int (6 : Int32)), .val (.ref w_GAP), .val (.ref w_INSERT_INTENTION)] [])) _
                            refine XS.iconst X390.here hx rfl (hb hby at_43) ?_
                            show Steps p.tables e below (T390.setTop (mkF m 44 #[.val (.int p1), .val (.int p2), .val (.int (5 : Int32)), .val (.int (6 : Int32)), .val (.ref w_GAP), .val (.ref w_INSERT_INTENTION)] [(.int (1 : Int32))])) _
                            refine XS.goto X390.here hx rfl (pc0 := 44) (pc' := 48) rfl (hb hby at_44) (by decide) (by decide) ?_
                            show Steps p.tables e below (T390.setTop (mkF m 48 #[.val (.int p1), .val (.int p2), .val (.int (5 : Int32)), .val (.int (6 : Int32)), .val (.ref w_GAP), .val (.ref w_INSERT_INTENTION)] [(.int (1 : Int32))])) _
                            exact retN X390 hx (t := .boolean) Bd.returns (by simp) (hb hby at_48) hr
                          · show own_Q0 Z p1 p2 w_INTENTION w_TABLE w_NEXT_KEY w_RECORD w_IMPLICIT w_GAP w_INSERT_INTENTION h0 n0 _ T390.heap _
                            rw [e390]
                            exact ⟨(by rw [own_f0, if_neg hc1, if_neg hc9, if_neg hc17, if_neg hc25, if_neg hc33, if_pos hc41, if_neg hc42, if_neg hc43, if_neg hc44, if_neg hc45, if_neg hc46, if_neg hc47]), N391⟩
            ·
              have hc49 : ((p1 &&& (2147483647 : Int32)) - ((p1 &&& (2147483647 : Int32)) / (7 : Int32)) * (7 : Int32)) = (6 : Int32) := own_exh p1 hc1 hc9 hc17 hc25 hc33 hc41
              have k392 : ∀ t, Steps p.tables e below (s₁.setTop (mkF m 7 #[.val (.int p1), .val (.int p2), .unset, .unset, .unset, .unset] [(.int (6 : Int32))])) t → Steps p.tables e below (s₁.setTop (entryFrame m #[(.int p1), (.int p2)] maxLocals)) t := by
                intro t kt
                refine k1 t ?_
                rw [hc49]
                exact kt
              have k393 : ∀ t, Steps p.tables e below (s₁.setTop (mkF m 15 #[.val (.int p1), .val (.int p2), .val (.int (6 : Int32)), .unset, .unset, .unset] [(.int ((p2 &&& (2147483647 : Int32)) - ((p2 &&& (2147483647 : Int32)) / (7 : Int32)) * (7 : Int32)))])) t → Steps p.tables e below (s₁.setTop (entryFrame m #[(.int p1), (.int p2)] maxLocals)) t := by
                intro t kt
                refine k392 t ?_
                show Steps p.tables e below (s₁.setTop (mkF m 7 #[.val (.int p1), .val (.int p2), .unset, .unset, .unset, .unset] [(.int (6 : Int32))])) _
                refine XS.istoreN X0.here hx rfl (hb hby at_7) rfl (l' := #[.val (.int p1), .val (.int p2), .val (.int (6 : Int32)), .unset, .unset, .unset]) rfl ?_
                show Steps p.tables e below (s₁.setTop (mkF m 8 #[.val (.int p1), .val (.int p2), .val (.int (6 : Int32)), .unset, .unset, .unset] [])) _
                refine XS.iloadN X0.here hx rfl (hb hby at_8) rfl ?_
                show Steps p.tables e below (s₁.setTop (mkF m 9 #[.val (.int p1), .val (.int p2), .val (.int (6 : Int32)), .unset, .unset, .unset] [(.int p2)])) _
                refine X0.ldcInt hx hown (mvT hZ (hw _ (List.mem_of_getElem? (i := 0) rfl))) (g := (mkF m 9 #[.val (.int p1), .val (.int p2), .val (.int (6 : Int32)), .unset, .unset, .unset] [(.int p2)])) rfl (hb hby at_9) _ ?_
                show Steps p.tables e below (s₁.setTop (mkF m 11 #[.val (.int p1), .val (.int p2), .val (.int (6 : Int32)), .unset, .unset, .unset] [(.int (2147483647 : Int32)), (.int p2)])) _
                refine XS.iand X0.here hx rfl (hb hby at_11) rfl ?_
                show Steps p.tables e below (s₁.setTop (mkF m 12 #[.val (.int p1), .val (.int p2), .val (.int (6 : Int32)), .unset, .unset, .unset] [(.int (p2 &&& (2147483647 : Int32)))])) _
                refine XS.bipush X0.here hx rfl (hb hby at_12) ?_
                show Steps p.tables e below (s₁.setTop (mkF m 14 #[.val (.int p1), .val (.int p2), .val (.int (6 : Int32)), .unset, .unset, .unset] [(.int (7 : Int32)), (.int (p2 &&& (2147483647 : Int32)))])) _
                refine XS.irem X0.here hx rfl (hb hby at_14) rfl (by decide) ?_
                exact kt
              by_cases hc50 : ((p2 &&& (2147483647 : Int32)) - ((p2 &&& (2147483647 : Int32)) / (7 : Int32)) * (7 : Int32)) = (0 : Int32)
              ·
                have k394 : ∀ t, Steps p.tables e below (s₁.setTop (mkF m 15 #[.val (.int p1), .val (.int p2), .val (.int (6 : Int32)), .unset, .unset, .unset] [(.int (0 : Int32))])) t → Steps p.tables e below (s₁.setTop (entryFrame m #[(.int p1), (.int p2)] maxLocals)) t := by
                  intro t kt
                  refine k393 t ?_
                  rw [hc50]
                  exact kt
                obtain ⟨v395, _, ⟨T395, L395, k395, n395⟩, -, X395, ⟨Lc395, hQ395, l395, y395, z395⟩, st395⟩ := Jvm.LawKit.callS X0 hx (y := (⟨"com/example/kerb/kerb/txn/LockKindCoversPinLaw", "pick", "(I)Lcom/example/kerb/kerb/txn/LockKind;"⟩ : MethodName)) hown (mvT hZ (hw _ (List.mem_of_getElem? (i := 1) rfl))) (mvT hZ (hw _ (List.mem_of_getElem? (i := 2) rfl))) (mvT hZ (hw _ (List.mem_of_getElem? (i := 3) rfl))) (mvT hZ (hw _ (List.mem_of_getElem? (i := 4) rfl))) (by decide) (backOf (W := 0) (own_rm1 l Z a0 hw [] (6 : Int32) w_INTENTION w_TABLE w_NEXT_KEY w_RECORD w_IMPLICIT w_GAP w_INSERT_INTENTION h0 n0 Z0 S_INTENTION S_TABLE S_NEXT_KEY S_RECORD S_IMPLICIT S_GAP S_INSERT_INTENTION) hZ (hw _ (List.mem_of_getElem? (i := 4) rfl)) (hw _ (List.mem_of_getElem? (i := 3) rfl)) (by decide) (by decide)) (g := (mkF m 17 #[.val (.int p1), .val (.int p2), .val (.int (6 : Int32)), .val (.int (0 : Int32)), .unset, .unset] [(.int (6 : Int32))])) rfl (by rw [hml]; rfl) (argsL := [(.int (6 : Int32))]) (rest := []) (lenOf own_pd93 rfl) rfl (by show 2 * 0 + _ ≤ _; exact Nat.le_of_eq rfl) (hb hby at_17) (fun _ _ => ⟨rfl, e0, (by decide : 0 + 0 ≤ _), (by decide : 0 + 0 ≤ _)⟩)
                dsimp only [Pt.U, Pt.locs, Pt.cells, Pt.slots] at X395 l395 y395 z395 st395 hQ395
                subst l395 y395 z395
                obtain ⟨hv395, N395q, e395⟩ := hQ395
                have N396 := Fr.app N0 N395q
                rw [show (own_f1 (6 : Int32) w_INTENTION w_TABLE w_NEXT_KEY w_RECORD w_IMPLICIT w_GAP w_INSERT_INTENTION) = w_INSERT_INTENTION from by first | rfl | decide | simp [own_f1]] at hv395
                subst hv395
                obtain ⟨v397, _, ⟨T397, L397, k397, n397⟩, -, X397, ⟨Lc397, hQ397, l397, y397, z397⟩, st397⟩ := Jvm.LawKit.callS X395 hx (y := (⟨"com/example/kerb/kerb/txn/LockKindCoversPinLaw", "pick", "(I)Lcom/example/kerb/kerb/txn/LockKind;"⟩ : MethodName)) hown (mvT hZ (hw _ (List.mem_of_getElem? (i := 1) rfl))) (mvT hZ (hw _ (List.mem_of_getElem? (i := 2) rfl))) (mvT hZ (hw _ (List.mem_of_getElem? (i := 3) rfl))) (mvT hZ (hw _ (List.mem_of_getElem? (i := 4) rfl))) (by decide) (backOf (W := 0) (own_rm1 l Z a0 hw [] (0 : Int32) w_INTENTION w_TABLE w_NEXT_KEY w_RECORD w_IMPLICIT w_GAP w_INSERT_INTENTION h0 n0 Z0 S_INTENTION S_TABLE S_NEXT_KEY S_RECORD S_IMPLICIT S_GAP S_INSERT_INTENTION) hZ (hw _ (List.mem_of_getElem? (i := 4) rfl)) (hw _ (List.mem_of_getElem? (i := 3) rfl)) (by decide) (by decide)) (g := (mkF m 23 #[.val (.int p1), .val (.int p2), .val (.int (6 : Int32)), .val (.int (0 : Int32)), .val (.ref w_INSERT_INTENTION), .unset] [(.int (0 : Int32))])) rfl (by rw [hml]; rfl) (argsL := [(.int (0 : Int32))]) (rest := []) (lenOf own_pd93 rfl) rfl (by show 2 * 0 + _ ≤ _; exact Nat.le_of_eq rfl) (hb hby at_23) (fun _ _ => ⟨rfl, e395, (by decide : 0 + 0 ≤ _), (by decide : 0 + 0 ≤ _)⟩)
                dsimp only [Pt.U, Pt.locs, Pt.cells, Pt.slots] at X397 l397 y397 z397 st397 hQ397
                subst l397 y397 z397
                obtain ⟨hv397, N397q, e397⟩ := hQ397
                have N398 := Fr.app N396 N397q
                rw [show (own_f1 (0 : Int32) w_INTENTION w_TABLE w_NEXT_KEY w_RECORD w_IMPLICIT w_GAP w_INSERT_INTENTION) = w_INTENTION from by first | rfl | decide | simp [own_f1]] at hv397
                subst hv397
                obtain ⟨cq399, kq399, q399a, q399b, q399c⟩ := isOf hZ e397 E_w_INSERT_INTENTION
                obtain ⟨v399, _, ⟨T399, L399, k399, n399⟩, -, X399, ⟨Lc399, hQ399, l399, y399, z399⟩, st399⟩ := X397.virtualBack hx (y := (⟨"com/example/kerb/kerb/txn/LockKind", "covers", "(Lcom/example/kerb/kerb/txn/LockKind;)Z"⟩ : MethodName)) (z := (⟨"com/example/kerb/kerb/txn/LockKind", "covers", "(Lcom/example/kerb/kerb/txn/LockKind;)Z"⟩ : MethodName)) hown (mvT hZ (hw _ (List.mem_of_getElem? (i := 10) rfl))) (mvT hZ (hw _ (List.mem_of_getElem? (i := 11) rfl))) (notFace_of_selects (args := #[]) (mvT hZ (hw _ (List.mem_of_getElem? (i := 13) rfl)))) (mvT hZ (hw _ (List.mem_of_getElem? (i := 13) rfl))) (mvT hZ (hw _ (List.mem_of_getElem? (i := 12) rfl))) (by decide) (backOf (W := 0) (own_rm2 l Z a0 hw [] w_INSERT_INTENTION w_INTENTION (0 : Int32) w_NEXT_KEY w_GAP w_RECORD w_IMPLICIT h0 n0 Z0 F_coversRecord_w_INSERT_INTENTION S_NEXT_KEY S_GAP S_RECORD S_IMPLICIT) hZ (hw _ (List.mem_of_getElem? (i := 14) rfl)) (hw _ (List.mem_of_getElem? (i := 6) rfl)) (by decide) (by decide)) q399a q399c (g := (mkF m 32 #[.val (.int p1), .val (.int p2), .val (.int (6 : Int32)), .val (.int (0 : Int32)), .val (.ref w_INSERT_INTENTION), .val (.ref w_INTENTION)] [(.ref w_INTENTION), (.ref w_INSERT_INTENTION)])) rfl (by rw [hml]; rfl) (Steps.refl _) (argsL := [(.ref w_INTENTION)]) (rest := []) (lenOf own_pd94 rfl) rfl (by show 2 * 0 + _ ≤ _; exact Nat.le_of_eq rfl) (hb hby at_32) (fun _ _ => ⟨rfl, e397, (by decide : 0 + 0 ≤ _), (by decide : 0 + 0 ≤ _)⟩)
                dsimp only [Pt.U, Pt.locs, Pt.cells, Pt.slots] at X399 l399 y399 z399 st399 hQ399
                subst l399 y399 z399
                obtain ⟨hv399, N399q, e399⟩ := hQ399
                have N400 := Fr.app N398 N399q
                rw [show (own_f2 w_INSERT_INTENTION w_INTENTION (0 : Int32) w_NEXT_KEY w_GAP w_RECORD w_IMPLICIT) = (0 : Int32) from by first | rfl | decide | simp [own_f2, ne_INTENTION_INSERT_INTENTION.symm, ne_NEXT_KEY_INSERT_INTENTION.symm]] at hv399
                subst hv399
                obtain ⟨v401, _, ⟨T401, L401, k401, n401⟩, -, X401, ⟨Lc401, hQ401, l401, y401, z401⟩, st401⟩ := Jvm.LawKit.callS X399 hx (y := (⟨"com/example/kerb/kerb/txn/LockKindCoversPinLaw", "expected", "(II)Z"⟩ : MethodName)) hown (mvT hZ (hw _ (List.mem_of_getElem? (i := 19) rfl))) (mvT hZ (hw _ (List.mem_of_getElem? (i := 20) rfl))) (mvT hZ (hw _ (List.mem_of_getElem? (i := 3) rfl))) (mvT hZ (hw _ (List.mem_of_getElem? (i := 21) rfl))) (by decide) (backOf (W := 1) (own_rm3 l Z a0 hw [] (6 : Int32) (0 : Int32) h0 n0 Z0) hZ (hw _ (List.mem_of_getElem? (i := 21) rfl)) (hw _ (List.mem_of_getElem? (i := 3) rfl)) (by decide) (by decide)) (g := (mkF m 37 #[.val (.int p1), .val (.int p2), .val (.int (6 : Int32)), .val (.int (0 : Int32)), .val (.ref w_INSERT_INTENTION), .val (.ref w_INTENTION)] [(.int (0 : Int32)), (.int (6 : Int32)), (.int (0 : Int32))])) rfl (by rw [hml]; rfl) (argsL := [(.int (6 : Int32)), (.int (0 : Int32))]) (rest := [(.int (0 : Int32))]) (lenOf own_pd95 rfl) rfl (by show 2 * 0 + _ ≤ _; exact Nat.le_of_eq rfl) (hb hby at_37) (fun _ _ => ⟨rfl, e399, (by decide : 0 + 0 ≤ _), (by decide : 0 + 0 ≤ _)⟩)
                dsimp only [Pt.U, Pt.locs, Pt.cells, Pt.slots] at X401 l401 y401 z401 st401 hQ401
                subst l401 y401 z401
                obtain ⟨hv401, N401q, e401⟩ := hQ401
                have N402 := Fr.app N400 N401q
                rw [show (own_f3 (6 : Int32) (0 : Int32)) = (0 : Int32) from by first | rfl | decide | simp [own_f3]] at hv401
                subst hv401
                obtain ⟨fs, hr, hrun, hended, hW, hsame⟩ := X401.leave (v := some (.int (1 : Int32))) (fun h => by rw [Bd.returns] at h; cases h)
                refine ⟨_, _, k394 _ ?_, hrun, hended, _, _, rfl, ?_, ⟨_, rfl⟩, hW, hsame.mono (by decide) (by decide)⟩
                · show Steps p.tables e below (s₁.setTop (mkF m 15 #[.val (.int p1), .val (.int p2), .val (.int (6 : Int32)), .unset, .unset, .unset] [(.int (0 : Int32))])) _
                  refine XS.istoreN X0.here hx rfl (hb hby at_15) rfl (l' := #[.val (.int p1), .val (.int p2), .val (.int (6 : Int32)), .val (.int (0 : Int32)), .unset, .unset]) rfl ?_
                  show Steps p.tables e below (s₁.setTop (mkF m 16 #[.val (.int p1), .val (.int p2), .val (.int (6 : Int32)), .val (.int (0 : Int32)), .unset, .unset] [])) _
                  refine XS.iloadN X0.here hx rfl (hb hby at_16) rfl ?_
                  show Steps p.tables e below (s₁.setTop (mkF m 17 #[.val (.int p1), .val (.int p2), .val (.int (6 : Int32)), .val (.int (0 : Int32)), .unset, .unset] [(.int (6 : Int32))])) _
                  refine st395 _ ?_
                  show Steps p.tables e below (T395.setTop (mkF m 20 #[.val (.int p1), .val (.int p2), .val (.int (6 : Int32)), .val (.int (0 : Int32)), .unset, .unset] [(.ref w_INSERT_INTENTION)])) _
                  refine XS.astore X395.here hx rfl (hb hby at_20) rfl rfl (l' := #[.val (.int p1), .val (.int p2), .val (.int (6 : Int32)), .val (.int (0 : Int32)), .val (.ref w_INSERT_INTENTION), .unset]) rfl ?_
                  show Steps p.tables e below (T395.setTop (mkF m 22 #[.val (.int p1), .val (.int p2), .val (.int (6 : Int32)), .val (.int (0 : Int32)), .val (.ref w_INSERT_INTENTION), .unset] [])) _
                  refine XS.iloadN X395.here hx rfl (hb hby at_22) rfl ?_
                  show Steps p.tables e below (T395.setTop (mkF m 23 #[.val (.int p1), .val (.int p2), .val (.int (6 : Int32)), .val (.int (0 : Int32)), .val (.ref w_INSERT_INTENTION), .unset] [(.int (0 : Int32))])) _
                  refine st397 _ ?_
                  show Steps p.tables e below (T397.setTop (mkF m 26 #[.val (.int p1), .val (.int p2), .val (.int (6 : Int32)), .val (.int (0 : Int32)), .val (.ref w_INSERT_INTENTION), .unset] [(.ref w_INTENTION)])) _
                  refine XS.astore X397.here hx rfl (hb hby at_26) rfl rfl (l' := #[.val (.int p1), .val (.int p2), .val (.int (6 : Int32)), .val (.int (0 : Int32)), .val (.ref w_INSERT_INTENTION), .val (.ref w_INTENTION)]) rfl ?_
                  show Steps p.tables e below (T397.setTop (mkF m 28 #[.val (.int p1), .val (.int p2), .val (.int (6 : Int32)), .val (.int (0 : Int32)), .val (.ref w_INSERT_INTENTION), .val (.ref w_INTENTION)] [])) _
                  refine XS.aload X397.here hx rfl (hb hby at_28) rfl rfl ?_
                  show Steps p.tables e below (T397.setTop (mkF m 30 #[.val (.int p1), .val (.int p2), .val (.int (6 : Int32)), .val (.int (0 : Int32)), .val (.ref w_INSERT_INTENTION), .val (.ref w_INTENTION)] [(.ref w_INSERT_INTENTION)])) _
                  refine XS.aload X397.here hx rfl (hb hby at_30) rfl rfl ?_
                  show Steps p.tables e below (T397.setTop (mkF m 32 #[.val (.int p1), .val (.int p2), .val (.int (6 : Int32)), .val (.int (0 : Int32)), .val (.ref w_INSERT_INTENTION), .val (.ref w_INTENTION)] [(.ref w_INTENTION), (.ref w_INSERT_INTENTION)])) _
                  refine st399.trans ?_
                  show Steps p.tables e below (T399.setTop (mkF m 35 #[.val (.int p1), .val (.int p2), .val (.int (6 : Int32)), .val (.int (0 : Int32)), .val (.ref w_INSERT_INTENTION), .val (.ref w_INTENTION)] [(.int (0 : Int32))])) _
                  refine XS.iloadN X399.here hx rfl (hb hby at_35) rfl ?_
                  show Steps p.tables e below (T399.setTop (mkF m 36 #[.val (.int p1), .val (.int p2), .val (.int (6 : Int32)), .val (.int (0 : Int32)), .val (.ref w_INSERT_INTENTION), .val (.ref w_INTENTION)] [(.int (6 : Int32)), (.int (0 : Int32))])) _
                  refine XS.iloadN X399.here hx rfl (hb hby at_36) rfl ?_
                  show Steps p.tables e below (T399.setTop (mkF m 37 #[.val (.int p1), .val (.int p2), .val (.int (6 : Int32)), .val (.int (0 : Int32)), .val (.ref w_INSERT_INTENTION), .val (.ref w_INTENTION)] [(.int (0 : Int32)), (.int (6 : Int32)), (.int (0 : Int32))])) _
                  refine st401 _ ?_
                  show Steps p.tables e below (T401.setTop (mkF m 40 #[.val (.int p1), .val (.int p2), .val (.int (6 : Int32)), .val (.int (0 : Int32)), .val (.ref w_INSERT_INTENTION), .val (.ref w_INTENTION)] [(.int (0 : Int32)), (.int (0 : Int32))])) _
                  refine XS.icmpNo X401.here hx rfl (hb hby at_40) rfl (teq (by decide : (0 : Int32) = (0 : Int32))).2 ?_
                  show Steps p.tables e below (T401.setTop (mkF m 43 #[.val (.int p1), .val (.int p2), .val (.int (6 : Int32)), .val (.int (0 : Int32)), .val (.ref w_INSERT_INTENTION), .val (.ref w_INTENTION)] [])) _
                  refine XS.iconst X401.here hx rfl (hb hby at_43) ?_
                  show Steps p.tables e below (T401.setTop (mkF m 44 #[.val (.int p1), .val (.int p2), .val (.int (6 : Int32)), .val (.int (0 : Int32)), .val (.ref w_INSERT_INTENTION), .val (.ref w_INTENTION)] [(.int (1 : Int32))])) _
                  refine XS.goto X401.here hx rfl (pc0 := 44) (pc' := 48) rfl (hb hby at_44) (by decide) (by decide) ?_
                  show Steps p.tables e below (T401.setTop (mkF m 48 #[.val (.int p1), .val (.int p2), .val (.int (6 : Int32)), .val (.int (0 : Int32)), .val (.ref w_INSERT_INTENTION), .val (.ref w_INTENTION)] [(.int (1 : Int32))])) _
                  exact retN X401 hx (t := .boolean) Bd.returns (by simp) (hb hby at_48) hr
                · show own_Q0 Z p1 p2 w_INTENTION w_TABLE w_NEXT_KEY w_RECORD w_IMPLICIT w_GAP w_INSERT_INTENTION h0 n0 _ T401.heap _
                  rw [e401]
                  exact ⟨(by rw [own_f0, if_neg hc1, if_neg hc9, if_neg hc17, if_neg hc25, if_neg hc33, if_neg hc41, if_pos hc50]), N402⟩
              ·
                by_cases hc51 : ((p2 &&& (2147483647 : Int32)) - ((p2 &&& (2147483647 : Int32)) / (7 : Int32)) * (7 : Int32)) = (1 : Int32)
                ·
                  have k403 : ∀ t, Steps p.tables e below (s₁.setTop (mkF m 15 #[.val (.int p1), .val (.int p2), .val (.int (6 : Int32)), .unset, .unset, .unset] [(.int (1 : Int32))])) t → Steps p.tables e below (s₁.setTop (entryFrame m #[(.int p1), (.int p2)] maxLocals)) t := by
                    intro t kt
                    refine k393 t ?_
                    rw [hc51]
                    exact kt
                  obtain ⟨v404, _, ⟨T404, L404, k404, n404⟩, -, X404, ⟨Lc404, hQ404, l404, y404, z404⟩, st404⟩ := Jvm.LawKit.callS X0 hx (y := (⟨"com/example/kerb/kerb/txn/LockKindCoversPinLaw", "pick", "(I)Lcom/example/kerb/kerb/txn/LockKind;"⟩ : MethodName)) hown (mvT hZ (hw _ (List.mem_of_getElem? (i := 1) rfl))) (mvT hZ (hw _ (List.mem_of_getElem? (i := 2) rfl))) (mvT hZ (hw _ (List.mem_of_getElem? (i := 3) rfl))) (mvT hZ (hw _ (List.mem_of_getElem? (i := 4) rfl))) (by decide) (backOf (W := 0) (own_rm1 l Z a0 hw [] (6 : Int32) w_INTENTION w_TABLE w_NEXT_KEY w_RECORD w_IMPLICIT w_GAP w_INSERT_INTENTION h0 n0 Z0 S_INTENTION S_TABLE S_NEXT_KEY S_RECORD S_IMPLICIT S_GAP S_INSERT_INTENTION) hZ (hw _ (List.mem_of_getElem? (i := 4) rfl)) (hw _ (List.mem_of_getElem? (i := 3) rfl)) (by decide) (by decide)) (g := (mkF m 17 #[.val (.int p1), .val (.int p2), .val (.int (6 : Int32)), .val (.int (1 : Int32)), .unset, .unset] [(.int (6 : Int32))])) rfl (by rw [hml]; rfl) (argsL := [(.int (6 : Int32))]) (rest := []) (lenOf own_pd93 rfl) rfl (by show 2 * 0 + _ ≤ _; exact Nat.le_of_eq rfl) (hb hby at_17) (fun _ _ => ⟨rfl, e0, (by decide : 0 + 0 ≤ _), (by decide : 0 + 0 ≤ _)⟩)
                  dsimp only [Pt.U, Pt.locs, Pt.cells, Pt.slots] at X404 l404 y404 z404 st404 hQ404
                  subst l404 y404 z404
                  obtain ⟨hv404, N404q, e404⟩ := hQ404
                  have N405 := Fr.app N0 N404q
                  rw [show (own_f1 (6 : Int32) w_INTENTION w_TABLE w_NEXT_KEY w_RECORD w_IMPLICIT w_GAP w_INSERT_INTENTION) = w_INSERT_INTENTION from by first | rfl | decide | simp [own_f1]] at hv404
                  subst hv404
                  obtain ⟨v406, _, ⟨T406, L406, k406, n406⟩, -, X406, ⟨Lc406, hQ406, l406, y406, z406⟩, st406⟩ := Jvm.LawKit.callS X404 hx (y := (⟨"com/example/kerb/kerb/txn/LockKindCoversPinLaw", "pick", "(I)Lcom/example/kerb/kerb/txn/LockKind;"⟩ : MethodName)) hown (mvT hZ (hw _ (List.mem_of_getElem? (i := 1) rfl))) (mvT hZ (hw _ (List.mem_of_getElem? (i := 2) rfl))) (mvT hZ (hw _ (List.mem_of_getElem? (i := 3) rfl))) (mvT hZ (hw _ (List.mem_of_getElem? (i := 4) rfl))) (by decide) (backOf (W := 0) (own_rm1 l Z a0 hw [] (1 : Int32) w_INTENTION w_TABLE w_NEXT_KEY w_RECORD w_IMPLICIT w_GAP w_INSERT_INTENTION h0 n0 Z0 S_INTENTION S_TABLE S_NEXT_KEY S_RECORD S_IMPLICIT S_GAP S_INSERT_INTENTION) hZ (hw _ (List.mem_of_getElem? (i := 4) rfl)) (hw _ (List.mem_of_getElem? (i := 3) rfl)) (by decide) (by decide)) (g := (mkF m 23 #[.val (.int p1), .val (.int p2), .val (.int (6 : Int32)), .val (.int (1 : Int32)), .val (.ref w_INSERT_INTENTION), .unset] [(.int (1 : Int32))])) rfl (by rw [hml]; rfl) (argsL := [(.int (1 : Int32))]) (rest := []) (lenOf own_pd93 rfl) rfl (by show 2 * 0 + _ ≤ _; exact Nat.le_of_eq rfl) (hb hby at_23) (fun _ _ => ⟨rfl, e404, (by decide : 0 + 0 ≤ _), (by decide : 0 + 0 ≤ _)⟩)
                  dsimp only [Pt.U, Pt.locs, Pt.cells, Pt.slots] at X406 l406 y406 z406 st406 hQ406
                  subst l406 y406 z406
                  obtain ⟨hv406, N406q, e406⟩ := hQ406
                  have N407 := Fr.app N405 N406q
                  rw [show (own_f1 (1 : Int32) w_INTENTION w_TABLE w_NEXT_KEY w_RECORD w_IMPLICIT w_GAP w_INSERT_INTENTION) = w_TABLE from by first | rfl | decide | simp [own_f1]] at hv406
                  subst hv406
                  obtain ⟨cq408, kq408, q408a, q408b, q408c⟩ := isOf hZ e406 E_w_INSERT_INTENTION
                  obtain ⟨v408, _, ⟨T408, L408, k408, n408⟩, -, X408, ⟨Lc408, hQ408, l408, y408, z408⟩, st408⟩ := X406.virtualBack hx (y := (⟨"com/example/kerb/kerb/txn/LockKind", "covers", "(Lcom/example/kerb/kerb/txn/LockKind;)Z"⟩ : MethodName)) (z := (⟨"com/example/kerb/kerb/txn/LockKind", "covers", "(Lcom/example/kerb/kerb/txn/LockKind;)Z"⟩ : MethodName)) hown (mvT hZ (hw _ (List.mem_of_getElem? (i := 10) rfl))) (mvT hZ (hw _ (List.mem_of_getElem? (i := 11) rfl))) (notFace_of_selects (args := #[]) (mvT hZ (hw _ (List.mem_of_getElem? (i := 13) rfl)))) (mvT hZ (hw _ (List.mem_of_getElem? (i := 13) rfl))) (mvT hZ (hw _ (List.mem_of_getElem? (i := 12) rfl))) (by decide) (backOf (W := 0) (own_rm2 l Z a0 hw [] w_INSERT_INTENTION w_TABLE (0 : Int32) w_NEXT_KEY w_GAP w_RECORD w_IMPLICIT h0 n0 Z0 F_coversRecord_w_INSERT_INTENTION S_NEXT_KEY S_GAP S_RECORD S_IMPLICIT) hZ (hw _ (List.mem_of_getElem? (i := 14) rfl)) (hw _ (List.mem_of_getElem? (i := 6) rfl)) (by decide) (by decide)) q408a q408c (g := (mkF m 32 #[.val (.int p1), .val (.int p2), .val (.int (6 : Int32)), .val (.int (1 : Int32)), .val (.ref w_INSERT_INTENTION), .val (.ref w_TABLE)] [(.ref w_TABLE), (.ref w_INSERT_INTENTION)])) rfl (by rw [hml]; rfl) (Steps.refl _) (argsL := [(.ref w_TABLE)]) (rest := []) (lenOf own_pd94 rfl) rfl (by show 2 * 0 + _ ≤ _; exact Nat.le_of_eq rfl) (hb hby at_32) (fun _ _ => ⟨rfl, e406, (by decide : 0 + 0 ≤ _), (by decide : 0 + 0 ≤ _)⟩)
                  dsimp only [Pt.U, Pt.locs, Pt.cells, Pt.slots] at X408 l408 y408 z408 st408 hQ408
                  subst l408 y408 z408
                  obtain ⟨hv408, N408q, e408⟩ := hQ408
                  have N409 := Fr.app N407 N408q
                  rw [show (own_f2 w_INSERT_INTENTION w_TABLE (0 : Int32) w_NEXT_KEY w_GAP w_RECORD w_IMPLICIT) = (0 : Int32) from by first | rfl | decide | simp [own_f2, ne_NEXT_KEY_INSERT_INTENTION.symm, ne_TABLE_INSERT_INTENTION.symm]] at hv408
                  subst hv408
                  obtain ⟨v410, _, ⟨T410, L410, k410, n410⟩, -, X410, ⟨Lc410, hQ410, l410, y410, z410⟩, st410⟩ := Jvm.LawKit.callS X408 hx (y := (⟨"com/example/kerb/kerb/txn/LockKindCoversPinLaw", "expected", "(II)Z"⟩ : MethodName)) hown (mvT hZ (hw _ (List.mem_of_getElem? (i := 19) rfl))) (mvT hZ (hw _ (List.mem_of_getElem? (i := 20) rfl))) (mvT hZ (hw _ (List.mem_of_getElem? (i := 3) rfl))) (mvT hZ (hw _ (List.mem_of_getElem? (i := 21) rfl))) (by decide) (backOf (W := 1) (own_rm3 l Z a0 hw [] (6 : Int32) (1 : Int32) h0 n0 Z0) hZ (hw _ (List.mem_of_getElem? (i := 21) rfl)) (hw _ (List.mem_of_getElem? (i := 3) rfl)) (by decide) (by decide)) (g := (mkF m 37 #[.val (.int p1), .val (.int p2), .val (.int (6 : Int32)), .val (.int (1 : Int32)), .val (.ref w_INSERT_INTENTION), .val (.ref w_TABLE)] [(.int (1 : Int32)), (.int (6 : Int32)), (.int (0 : Int32))])) rfl (by rw [hml]; rfl) (argsL := [(.int (6 : Int32)), (.int (1 : Int32))]) (rest := [(.int (0 : Int32))]) (lenOf own_pd95 rfl) rfl (by show 2 * 0 + _ ≤ _; exact Nat.le_of_eq rfl) (hb hby at_37) (fun _ _ => ⟨rfl, e408, (by decide : 0 + 0 ≤ _), (by decide : 0 + 0 ≤ _)⟩)
                  dsimp only [Pt.U, Pt.locs, Pt.cells, Pt.slots] at X410 l410 y410 z410 st410 hQ410
                  subst l410 y410 z410
                  obtain ⟨hv410, N410q, e410⟩ := hQ410
                  have N411 := Fr.app N409 N410q
                  rw [show (own_f3 (6 : Int32) (1 : Int32)) = (0 : Int32) from by first | rfl | decide | simp [own_f3]] at hv410
                  subst hv410
                  obtain ⟨fs, hr, hrun, hended, hW, hsame⟩ := X410.leave (v := some (.int (1 : Int32))) (fun h => by rw [Bd.returns] at h; cases h)
                  refine ⟨_, _, k403 _ ?_, hrun, hended, _, _, rfl, ?_, ⟨_, rfl⟩, hW, hsame.mono (by decide) (by decide)⟩
                  · show Steps p.tables e below (s₁.setTop (mkF m 15 #[.val (.int p1), .val (.int p2), .val (.int (6 : Int32)), .unset, .unset, .unset] [(.int (1 : Int32))])) _
                    refine XS.istoreN X0.here hx rfl (hb hby at_15) rfl (l' := #[.val (.int p1), .val (.int p2), .val (.int (6 : Int32)), .val (.int (1 : Int32)), .unset, .unset]) rfl ?_
                    show Steps p.tables e below (s₁.setTop (mkF m 16 #[.val (.int p1), .val (.int p2), .val (.int (6 : Int32)), .val (.int (1 : Int32)), .unset, .unset] [])) _
                    refine XS.iloadN X0.here hx rfl (hb hby at_16) rfl ?_
                    show Steps p.tables e below (s₁.setTop (mkF m 17 #[.val (.int p1), .val (.int p2), .val (.int (6 : Int32)), .val (.int (1 : Int32)), .unset, .unset] [(.int (6 : Int32))])) _
                    refine st404 _ ?_
                    show Steps p.tables e below (T404.setTop (mkF m 20 #[.val (.int p1), .val (.int p2), .val (.int (6 : Int32)), .val (.int (1 : Int32)), .unset, .unset] [(.ref w_INSERT_INTENTION)])) _
                    refine XS.astore X404.here hx rfl (hb hby at_20) rfl rfl (l' := #[.val (.int p1), .val (.int p2), .val (.int (6 : Int32)), .val (.int (1 : Int32)), .val (.ref w_INSERT_INTENTION), .unset]) rfl ?_
                    show Steps p.tables e below (T404.setTop (mkF m 22 #[.val (.int p1), .val (.int p2), .val (.int (6 : Int32)), .val (.int (1 : Int32)), .val (.ref w_INSERT_INTENTION), .unset] [])) _
                    refine XS.iloadN X404.here hx rfl (hb hby at_22) rfl ?_
                    show Steps p.tables e below (T404.setTop (mkF m 23 #[.val (.int p1), .val (.int p2), .val (.int (6 : Int32)), .val (.int (1 : Int32)), .val (.ref w_INSERT_INTENTION), .unset] [(.int (1 : Int32))])) _
                    refine st406 _ ?_
                    show Steps p.tables e below (T406.setTop (mkF m 26 #[.val (.int p1), .val (.int p2), .val (.int (6 : Int32)), .val (.int (1 : Int32)), .val (.ref w_INSERT_INTENTION), .unset] [(.ref w_TABLE)])) _
                    refine XS.astore X406.here hx rfl (hb hby at_26) rfl rfl (l' := #[.val (.int p1), .val (.int p2), .val (.int (6 : Int32)), .val (.int (1 : Int32)), .val (.ref w_INSERT_INTENTION), .val (.ref w_TABLE)]) rfl ?_
                    show Steps p.tables e below (T406.setTop (mkF m 28 #[.val (.int p1), .val (.int p2), .val (.int (6 : Int32)), .val (.int (1 : Int32)), .val (.ref w_INSERT_INTENTION), .val (.ref w_TABLE)] [])) _
                    refine XS.aload X406.here hx rfl (hb hby at_28) rfl rfl ?_
                    show Steps p.tables e below (T406.setTop (mkF m 30 #[.val (.int p1), .val (.int p2), .val (.int (6 : Int32)), .val (.int (1 : Int32)), .val (.ref w_INSERT_INTENTION), .val (.ref w_TABLE)] [(.ref w_INSERT_INTENTION)])) _
                    refine XS.aload X406.here hx rfl (hb hby at_30) rfl rfl ?_
                    show Steps p.tables e below (T406.setTop (mkF m 32 #[.val (.int p1), .val (.int p2), .val (.int (6 : Int32)), .val (.int (1 : Int32)), .val (.ref w_INSERT_INTENTION), .val (.ref w_TABLE)] [(.ref w_TABLE), (.ref w_INSERT_INTENTION)])) _
                    refine st408.trans ?_
                    show Steps p.tables e below (T408.setTop (mkF m 35 #[.val (.int p1), .val (.int p2), .val (.int (6 : Int32)), .val (.int (1 : Int32)), .val (.ref w_INSERT_INTENTION), .val (.ref w_TABLE)] [(.int (0 : Int32))])) _
                    refine XS.iloadN X408.here hx rfl (hb hby at_35) rfl ?_
                    show Steps p.tables e below (T408.setTop (mkF m 36 #[.val (.int p1), .val (.int p2), .val (.int (6 : Int32)), .val (.int (1 : Int32)), .val (.ref w_INSERT_INTENTION), .val (.ref w_TABLE)] [(.int (6 : Int32)), (.int (0 : Int32))])) _
                    refine XS.iloadN X408.here hx rfl (hb hby at_36) rfl ?_
                    show Steps p.tables e below (T408.setTop (mkF m 37 #[.val (.int p1), .val (.int p2), .val (.int (6 : Int32)), .val (.int (1 : Int32)), .val (.ref w_INSERT_INTENTION), .val (.ref w_TABLE)] [(.int (1 : Int32)), (.int (6 : Int32)), (.int (0 : Int32))])) _
                    refine st410 _ ?_
                    show Steps p.tables e below (T410.setTop (mkF m 40 #[.val (.int p1), .val (.int p2), .val (.int (6 : Int32)), .val (.int (1 : Int32)), .val (.ref w_INSERT_INTENTION), .val (.ref w_TABLE)] [(.int (0 : Int32)), (.int (0 : Int32))])) _
                    refine XS.icmpNo X410.here hx rfl (hb hby at_40) rfl (teq (by decide : (0 : Int32) = (0 : Int32))).2 ?_
                    show Steps p.tables e below (T410.setTop (mkF m 43 #[.val (.int p1), .val (.int p2), .val (.int (6 : Int32)), .val (.int (1 : Int32)), .val (.ref w_INSERT_INTENTION), .val (.ref w_TABLE)] [])) _
                    refine XS.iconst X410.here hx rfl (hb hby at_43) ?_
                    show Steps p.tables e below (T410.setTop (mkF m 44 #[.val (.int p1), .val (.int p2), .val (.int (6 : Int32)), .val (.int (1 : Int32)), .val (.ref w_INSERT_INTENTION), .val (.ref w_TABLE)] [(.int (1 : Int32))])) _
                    refine XS.goto X410.here hx rfl (pc0 := 44) (pc' := 48) rfl (hb hby at_44) (by decide) (by decide) ?_
                    show Steps p.tables e below (T410.setTop (mkF m 48 #[.val (.int p1), .val (.int p2), .val (.int (6 : Int32)), .val (.int (1 : Int32)), .val (.ref w_INSERT_INTENTION), .val (.ref w_TABLE)] [(.int (1 : Int32))])) _
                    exact retN X410 hx (t := .boolean) Bd.returns (by simp) (hb hby at_48) hr
                  · show own_Q0 Z p1 p2 w_INTENTION w_TABLE w_NEXT_KEY w_RECORD w_IMPLICIT w_GAP w_INSERT_INTENTION h0 n0 _ T410.heap _
                    rw [e410]
                    exact ⟨(by rw [own_f0, if_neg hc1, if_neg hc9, if_neg hc17, if_neg hc25, if_neg hc33, if_neg hc41, if_neg hc50, if_pos hc51]), N411⟩
                ·
                  by_cases hc52 : ((p2 &&& (2147483647 : Int32)) - ((p2 &&& (2147483647 : Int32)) / (7 : Int32)) * (7 : Int32)) = (2 : Int32)
                  ·
                    have k412 : ∀ t, Steps p.tables e below (s₁.setTop (mkF m 15 #[.val (.int p1), .val (.int p2), .val (.int (6 : Int32)), .unset, .unset, .unset] [(.int (2 : Int32))])) t → Steps p.tables e below (s₁.setTop (entryFrame m #[(.int p1), (.int p2)] maxLocals)) t := by
                      intro t kt
                      refine k393 t ?_
                      rw [hc52]
                      exact kt
                    obtain ⟨v413, _, ⟨T413, L413, k413, n413⟩, -, X413, ⟨Lc413, hQ413, l413, y413, z413⟩, st413⟩ := Jvm.LawKit.callS X0 hx (y := (⟨"com/example/kerb/kerb/txn/LockKindCoversPinLaw", "pick", "(I)Lcom/example/kerb/kerb/txn/LockKind;"⟩ : MethodName)) hown (mvT hZ (hw _ (List.mem_of_getElem? (i := 1) rfl))) (mvT hZ (hw _ (List.mem_of_getElem? (i := 2) rfl))) (mvT hZ (hw _ (List.mem_of_getElem? (i := 3) rfl))) (mvT hZ (hw _ (List.mem_of_getElem? (i := 4) rfl))) (by decide) (backOf (W := 0) (own_rm1 l Z a0 hw [] (6 : Int32) w_INTENTION w_TABLE w_NEXT_KEY w_RECORD w_IMPLICIT w_GAP w_INSERT_INTENTION h0 n0 Z0 S_INTENTION S_TABLE S_NEXT_KEY S_RECORD S_IMPLICIT S_GAP S_INSERT_INTENTION) hZ (hw _ (List.mem_of_getElem? (i := 4) rfl)) (hw _ (List.mem_of_getElem? (i := 3) rfl)) (by decide) (by decide)) (g := (mkF m 17 #[.val (.int p1), .val (.int p2), .val (.int (6 : Int32)), .val (.int (2 : Int32)), .unset, .unset] [(.int (6 : Int32))])) rfl (by rw [hml]; rfl) (argsL := [(.int (6 : Int32))]) (rest := []) (lenOf own_pd93 rfl) rfl (by show 2 * 0 + _ ≤ _; exact Nat.le_of_eq rfl) (hb hby at_17) (fun _ _ => ⟨rfl, e0, (by decide : 0 + 0 ≤ _), (by decide : 0 + 0 ≤ _)⟩)
                    dsimp only [Pt.U, Pt.locs, Pt.cells, Pt.slots] at X413 l413 y413 z413 st413 hQ413
                    subst l413 y413 z413
                    obtain ⟨hv413, N413q, e413⟩ := hQ413
                    have N414 := Fr.app N0 N413q
                    rw [show (own_f1 (6 : Int32) w_INTENTION w_TABLE w_NEXT_KEY w_RECORD w_IMPLICIT w_GAP w_INSERT_INTENTION) = w_INSERT_INTENTION from by first | rfl | decide | simp [own_f1]] at hv413
                    subst hv413
                    obtain ⟨v415, _, ⟨T415, L415, k415, n415⟩, -, X415, ⟨Lc415, hQ415, l415, y415, z415⟩, st415⟩ := Jvm.LawKit.callS X413 hx (y := (⟨"com/example/kerb/kerb/txn/LockKindCoversPinLaw", "pick", "(I)Lcom/example/kerb/kerb/txn/LockKind;"⟩ : MethodName)) hown (mvT hZ (hw _ (List.mem_of_getElem? (i := 1) rfl))) (mvT hZ (hw _ (List.mem_of_getElem? (i := 2) rfl))) (mvT hZ (hw _ (List.mem_of_getElem? (i := 3) rfl))) (mvT hZ (hw _ (List.mem_of_getElem? (i := 4) rfl))) (by decide) (backOf (W := 0) (own_rm1 l Z a0 hw [] (2 : Int32) w_INTENTION w_TABLE w_NEXT_KEY w_RECORD w_IMPLICIT w_GAP w_INSERT_INTENTION h0 n0 Z0 S_INTENTION S_TABLE S_NEXT_KEY S_RECORD S_IMPLICIT S_GAP S_INSERT_INTENTION) hZ (hw _ (List.mem_of_getElem? (i := 4) rfl)) (hw _ (List.mem_of_getElem? (i := 3) rfl)) (by decide) (by decide)) (g := (mkF m 23 #[.val (.int p1), .val (.int p2), .val (.int (6 : Int32)), .val (.int (2 : Int32)), .val (.ref w_INSERT_INTENTION), .unset] [(.int (2 : Int32))])) rfl (by rw [hml]; rfl) (argsL := [(.int (2 : Int32))]) (rest := []) (lenOf own_pd93 rfl) rfl (by show 2 * 0 + _ ≤ _; exact Nat.le_of_eq rfl) (hb hby at_23) (fun _ _ => ⟨rfl, e413, (by decide : 0 + 0 ≤ _), (by decide : 0 + 0 ≤ _)⟩)
                    dsimp only [Pt.U, Pt.locs, Pt.cells, Pt.slots] at X415 l415 y415 z415 st415 hQ415
                    subst l415 y415 z415
                    obtain ⟨hv415, N415q, e415⟩ := hQ415
                    have N416 := Fr.app N414 N415q
                    rw [show (own_f1 (2 : Int32) w_INTENTION w_TABLE w_NEXT_KEY w_RECORD w_IMPLICIT w_GAP w_INSERT_INTENTION) = w_NEXT_KEY from by first | rfl | decide | simp [own_f1]] at hv415
                    subst hv415
                    obtain ⟨cq417, kq417, q417a, q417b, q417c⟩ := isOf hZ e415 E_w_INSERT_INTENTION
                    obtain ⟨v417, _, ⟨T417, L417, k417, n417⟩, -, X417, ⟨Lc417, hQ417, l417, y417, z417⟩, st417⟩ := X415.virtualBack hx (y := (⟨"com/example/kerb/kerb/txn/LockKind", "covers", "(Lcom/example/kerb/kerb/txn/LockKind;)Z"⟩ : MethodName)) (z := (⟨"com/example/kerb/kerb/txn/LockKind", "covers", "(Lcom/example/kerb/kerb/txn/LockKind;)Z"⟩ : MethodName)) hown (mvT hZ (hw _ (List.mem_of_getElem? (i := 10) rfl))) (mvT hZ (hw _ (List.mem_of_getElem? (i := 11) rfl))) (notFace_of_selects (args := #[]) (mvT hZ (hw _ (List.mem_of_getElem? (i := 13) rfl)))) (mvT hZ (hw _ (List.mem_of_getElem? (i := 13) rfl))) (mvT hZ (hw _ (List.mem_of_getElem? (i := 12) rfl))) (by decide) (backOf (W := 0) (own_rm2 l Z a0 hw [] w_INSERT_INTENTION w_NEXT_KEY (0 : Int32) w_NEXT_KEY w_GAP w_RECORD w_IMPLICIT h0 n0 Z0 F_coversRecord_w_INSERT_INTENTION S_NEXT_KEY S_GAP S_RECORD S_IMPLICIT) hZ (hw _ (List.mem_of_getElem? (i := 14) rfl)) (hw _ (List.mem_of_getElem? (i := 6) rfl)) (by decide) (by decide)) q417a q417c (g := (mkF m 32 #[.val (.int p1), .val (.int p2), .val (.int (6 : Int32)), .val (.int (2 : Int32)), .val (.ref w_INSERT_INTENTION), .val (.ref w_NEXT_KEY)] [(.ref w_NEXT_KEY), (.ref w_INSERT_INTENTION)])) rfl (by rw [hml]; rfl) (Steps.refl _) (argsL := [(.ref w_NEXT_KEY)]) (rest := []) (lenOf own_pd94 rfl) rfl (by show 2 * 0 + _ ≤ _; exact Nat.le_of_eq rfl) (hb hby at_32) (fun _ _ => ⟨rfl, e415, (by decide : 0 + 0 ≤ _), (by decide : 0 + 0 ≤ _)⟩)
                    dsimp only [Pt.U, Pt.locs, Pt.cells, Pt.slots] at X417 l417 y417 z417 st417 hQ417
                    subst l417 y417 z417
                    obtain ⟨hv417, N417q, e417⟩ := hQ417
                    have N418 := Fr.app N416 N417q
                    rw [show (own_f2 w_INSERT_INTENTION w_NEXT_KEY (0 : Int32) w_NEXT_KEY w_GAP w_RECORD w_IMPLICIT) = (0 : Int32) from by first | rfl | decide | simp [own_f2, ne_NEXT_KEY_INSERT_INTENTION.symm]] at hv417
                    subst hv417
                    obtain ⟨v419, _, ⟨T419, L419, k419, n419⟩, -, X419, ⟨Lc419, hQ419, l419, y419, z419⟩, st419⟩ := Jvm.LawKit.callS X417 hx (y := (⟨"com/example/kerb/kerb/txn/LockKindCoversPinLaw", "expected", "(II)Z"⟩ : MethodName)) hown (mvT hZ (hw _ (List.mem_of_getElem? (i := 19) rfl))) (mvT hZ (hw _ (List.mem_of_getElem? (i := 20) rfl))) (mvT hZ (hw _ (List.mem_of_getElem? (i := 3) rfl))) (mvT hZ (hw _ (List.mem_of_getElem? (i := 21) rfl))) (by decide) (backOf (W := 1) (own_rm3 l Z a0 hw [] (6 : Int32) (2 : Int32) h0 n0 Z0) hZ (hw _ (List.mem_of_getElem? (i := 21) rfl)) (hw _ (List.mem_of_getElem? (i := 3) rfl)) (by decide) (by decide)) (g := (mkF m 37 #[.val (.int p1), .val (.int p2), .val (.int (6 : Int32)), .val (.int (2 : Int32)), .val (.ref w_INSERT_INTENTION), .val (.ref w_NEXT_KEY)] [(.int (2 : Int32)), (.int (6 : Int32)), (.int (0 : Int32))])) rfl (by rw [hml]; rfl) (argsL := [(.int (6 : Int32)), (.int (2 : Int32))]) (rest := [(.int (0 : Int32))]) (lenOf own_pd95 rfl) rfl (by show 2 * 0 + _ ≤ _; exact Nat.le_of_eq rfl) (hb hby at_37) (fun _ _ => ⟨rfl, e417, (by decide : 0 + 0 ≤ _), (by decide : 0 + 0 ≤ _)⟩)
                    dsimp only [Pt.U, Pt.locs, Pt.cells, Pt.slots] at X419 l419 y419 z419 st419 hQ419
                    subst l419 y419 z419
                    obtain ⟨hv419, N419q, e419⟩ := hQ419
                    have N420 := Fr.app N418 N419q
                    rw [show (own_f3 (6 : Int32) (2 : Int32)) = (0 : Int32) from by first | rfl | decide | simp [own_f3]] at hv419
                    subst hv419
                    obtain ⟨fs, hr, hrun, hended, hW, hsame⟩ := X419.leave (v := some (.int (1 : Int32))) (fun h => by rw [Bd.returns] at h; cases h)
                    refine ⟨_, _, k412 _ ?_, hrun, hended, _, _, rfl, ?_, ⟨_, rfl⟩, hW, hsame.mono (by decide) (by decide)⟩
                    · show Steps p.tables e below (s₁.setTop (mkF m 15 #[.val (.int p1), .val (.int p2), .val (.int (6 : Int32)), .unset, .unset, .unset] [(.int (2 : Int32))])) _
                      refine XS.istoreN X0.here hx rfl (hb hby at_15) rfl (l' := #[.val (.int p1), .val (.int p2), .val (.int (6 : Int32)), .val (.int (2 : Int32)), .unset, .unset]) rfl ?_
                      show Steps p.tables e below (s₁.setTop (mkF m 16 #[.val (.int p1), .val (.int p2), .val (.int (6 : Int32)), .val (.int (2 : Int32)), .unset, .unset] [])) _
                      refine XS.iloadN X0.here hx rfl (hb hby at_16) rfl ?_
                      show Steps p.tables e below (s₁.setTop (mkF m 17 #[.val (.int p1), .val (.int p2), .val (.int (6 : Int32)), .val (.int (2 : Int32)), .unset, .unset] [(.int (6 : Int32))])) _
                      refine st413 _ ?_
                      show Steps p.tables e below (T413.setTop (mkF m 20 #[.val (.int p1), .val (.int p2), .val (.int (6 : Int32)), .val (.int (2 : Int32)), .unset, .unset] [(.ref w_INSERT_INTENTION)])) _
                      refine XS.astore X413.here hx rfl (hb hby at_20) rfl rfl (l' := #[.val (.int p1), .val (.int p2), .val (.int (6 : Int32)), .val (.int (2 : Int32)), .val (.ref w_INSERT_INTENTION), .unset]) rfl ?_
                      show Steps p.tables e below (T413.setTop (mkF m 22 #[.val (.int p1), .val (.int p2), .val (.int (6 : Int32)), .val (.int (2 : Int32)), .val (.ref w_INSERT_INTENTION), .unset] [])) _
                      refine XS.iloadN X413.here hx rfl (hb hby at_22) rfl ?_
                      show Steps p.tables e below (T413.setTop (mkF m 23 #[.val (.int p1), .val (.int p2), .val (.int (6 : Int32)), .val (.int (2 : Int32)), .val (.ref w_INSERT_INTENTION), .unset] [(.int (2 : Int32))])) _
                      refine st415 _ ?_
                      show Steps p.tables e below (T415.setTop (mkF m 26 #[.val (.int p1), .val (.int p2), .val (.int (6 : Int32)), .val (.int (2 : Int32)), .val (.ref w_INSERT_INTENTION), .unset] [(.ref w_NEXT_KEY)])) _
                      refine XS.astore X415.here hx rfl (hb hby at_26) rfl rfl (l' := #[.val (.int p1), .val (.int p2), .val (.int (6 : Int32)), .val (.int (2 : Int32)), .val (.ref w_INSERT_INTENTION), .val (.ref w_NEXT_KEY)]) rfl ?_
                      show Steps p.tables e below (T415.setTop (mkF m 28 #[.val (.int p1), .val (.int p2), .val (.int (6 : Int32)), .val (.int (2 : Int32)), .val (.ref w_INSERT_INTENTION), .val (.ref w_NEXT_KEY)] [])) _
                      refine XS.aload X415.here hx rfl (hb hby at_28) rfl rfl ?_
                      show Steps p.tables e below (T415.setTop (mkF m 30 #[.val (.int p1), .val (.int p2), .val (.int (6 : Int32)), .val (.int (2 : Int32)), .val (.ref w_INSERT_INTENTION), .val (.ref w_NEXT_KEY)] [(.ref w_INSERT_INTENTION)])) _
                      refine XS.aload X415.here hx rfl (hb hby at_30) rfl rfl ?_
                      show Steps p.tables e below (T415.setTop (mkF m 32 #[.val (.int p1), .val (.int p2), .val (.int (6 : Int32)), .val (.int (2 : Int32)), .val (.ref w_INSERT_INTENTION), .val (.ref w_NEXT_KEY)] [(.ref w_NEXT_KEY), (.ref w_INSERT_INTENTION)])) _
                      refine st417.trans ?_
                      show Steps p.tables e below (T417.setTop (mkF m 35 #[.val (.int p1), .val (.int p2), .val (.int (6 : Int32)), .val (.int (2 : Int32)), .val (.ref w_INSERT_INTENTION), .val (.ref w_NEXT_KEY)] [(.int (0 : Int32))])) _
                      refine XS.iloadN X417.here hx rfl (hb hby at_35) rfl ?_
                      show Steps p.tables e below (T417.setTop (mkF m 36 #[.val (.int p1), .val (.int p2), .val (.int (6 : Int32)), .val (.int (2 : Int32)), .val (.ref w_INSERT_INTENTION), .val (.ref w_NEXT_KEY)] [(.int (6 : Int32)), (.int (0 : Int32))])) _
                      refine XS.iloadN X417.here hx rfl (hb hby at_36) rfl ?_
                      show Steps p.tables e below (T417.setTop (mkF m 37 #[.val (.int p1), .val (.int p2), .val (.int (6 : Int32)), .val (.int (2 : Int32)), .val (.ref w_INSERT_INTENTION), .val (.ref w_NEXT_KEY)] [(.int (2 : Int32)), (.int (6 : Int32)), (.int (0 : Int32))])) _
                      refine st419 _ ?_
                      show Steps p.tables e below (T419.setTop (mkF m 40 #[.val (.int p1), .val (.int p2), .val (.int (6 : Int32)), .val (.int (2 : Int32)), .val (.ref w_INSERT_INTENTION), .val (.ref w_NEXT_KEY)] [(.int (0 : Int32)), (.int (0 : Int32))])) _
                      refine XS.icmpNo X419.here hx rfl (hb hby at_40) rfl (teq (by decide : (0 : Int32) = (0 : Int32))).2 ?_
                      show Steps p.tables e below (T419.setTop (mkF m 43 #[.val (.int p1), .val (.int p2), .val (.int (6 : Int32)), .val (.int (2 : Int32)), .val (.ref w_INSERT_INTENTION), .val (.ref w_NEXT_KEY)] [])) _
                      refine XS.iconst X419.here hx rfl (hb hby at_43) ?_
                      show Steps p.tables e below (T419.setTop (mkF m 44 #[.val (.int p1), .val (.int p2), .val (.int (6 : Int32)), .val (.int (2 : Int32)), .val (.ref w_INSERT_INTENTION), .val (.ref w_NEXT_KEY)] [(.int (1 : Int32))])) _
                      refine XS.goto X419.here hx rfl (pc0 := 44) (pc' := 48) rfl (hb hby at_44) (by decide) (by decide) ?_
                      show Steps p.tables e below (T419.setTop (mkF m 48 #[.val (.int p1), .val (.int p2), .val (.int (6 : Int32)), .val (.int (2 : Int32)), .val (.ref w_INSERT_INTENTION), .val (.ref w_NEXT_KEY)] [(.int (1 : Int32))])) _
                      exact retN X419 hx (t := .boolean) Bd.returns (by simp) (hb hby at_48) hr
                    · show own_Q0 Z p1 p2 w_INTENTION w_TABLE w_NEXT_KEY w_RECORD w_IMPLICIT w_GAP w_INSERT_INTENTION h0 n0 _ T419.heap _
                      rw [e419]
                      exact ⟨(by rw [own_f0, if_neg hc1, if_neg hc9, if_neg hc17, if_neg hc25, if_neg hc33, if_neg hc41, if_neg hc50, if_neg hc51, if_pos hc52]), N420⟩
                  ·
                    by_cases hc53 : ((p2 &&& (2147483647 : Int32)) - ((p2 &&& (2147483647 : Int32)) / (7 : Int32)) * (7 : Int32)) = (3 : Int32)
                    ·
                      have k421 : ∀ t, Steps p.tables e below (s₁.setTop (mkF m 15 #[.val (.int p1), .val (.int p2), .val (.int (6 : Int32)), .unset, .unset, .unset] [(.int (3 : Int32))])) t → Steps p.tables e below (s₁.setTop (entryFrame m #[(.int p1), (.int p2)] maxLocals)) t := by
                        intro t kt
                        refine k393 t ?_
                        rw [hc53]
                        exact kt
                      obtain ⟨v422, _, ⟨T422, L422, k422, n422⟩, -, X422, ⟨Lc422, hQ422, l422, y422, z422⟩, st422⟩ := Jvm.LawKit.callS X0 hx (y := (⟨"com/example/kerb/kerb/txn/LockKindCoversPinLaw", "pick", "(I)Lcom/example/kerb/kerb/txn/LockKind;"⟩ : MethodName)) hown (mvT hZ (hw _ (List.mem_of_getElem? (i := 1) rfl))) (mvT hZ (hw _ (List.mem_of_getElem? (i := 2) rfl))) (mvT hZ (hw _ (List.mem_of_getElem? (i := 3) rfl))) (mvT hZ (hw _ (List.mem_of_getElem? (i := 4) rfl))) (by decide) (backOf (W := 0) (own_rm1 l Z a0 hw [] (6 : Int32) w_INTENTION w_TABLE w_NEXT_KEY w_RECORD w_IMPLICIT w_GAP w_INSERT_INTENTION h0 n0 Z0 S_INTENTION S_TABLE S_NEXT_KEY S_RECORD S_IMPLICIT S_GAP S_INSERT_INTENTION) hZ (hw _ (List.mem_of_getElem? (i := 4) rfl)) (hw _ (List.mem_of_getElem? (i := 3) rfl)) (by decide) (by decide)) (g := (mkF m 17 #[.val (.int p1), .val (.int p2), .val (.int (6 : Int32)), .val (.int (3 : Int32)), .unset, .unset] [(.int (6 : Int32))])) rfl (by rw [hml]; rfl) (argsL := [(.int (6 : Int32))]) (rest := []) (lenOf own_pd93 rfl) rfl (by show 2 * 0 + _ ≤ _; exact Nat.le_of_eq rfl) (hb hby at_17) (fun _ _ => ⟨rfl, e0, (by decide : 0 + 0 ≤ _), (by decide : 0 + 0 ≤ _)⟩)
                      dsimp only [Pt.U, Pt.locs, Pt.cells, Pt.slots] at X422 l422 y422 z422 st422 hQ422
                      subst l422 y422 z422
                      obtain ⟨hv422, N422q, e422⟩ := hQ422
                      have N423 := Fr.app N0 N422q
                      rw [show (own_f1 (6 : Int32) w_INTENTION w_TABLE w_NEXT_KEY w_RECORD w_IMPLICIT w_GAP w_INSERT_INTENTION) = w_INSERT_INTENTION from by first | rfl | decide | simp [own_f1]] at hv422
                      subst hv422
                      obtain ⟨v424, _, ⟨T424, L424, k424, n424⟩, -, X424, ⟨Lc424, hQ424, l424, y424, z424⟩, st424⟩ := Jvm.LawKit.callS X422 hx (y := (⟨"com/example/kerb/kerb/txn/LockKindCoversPinLaw", "pick", "(I)Lcom/example/kerb/kerb/txn/LockKind;"⟩ : MethodName)) hown (mvT hZ (hw _ (List.mem_of_getElem? (i := 1) rfl))) (mvT hZ (hw _ (List.mem_of_getElem? (i := 2) rfl))) (mvT hZ (hw _ (List.mem_of_getElem? (i := 3) rfl))) (mvT hZ (hw _ (List.mem_of_getElem? (i := 4) rfl))) (by decide) (backOf (W := 0) (own_rm1 l Z a0 hw [] (3 : Int32) w_INTENTION w_TABLE w_NEXT_KEY w_RECORD w_IMPLICIT w_GAP w_INSERT_INTENTION h0 n0 Z0 S_INTENTION S_TABLE S_NEXT_KEY S_RECORD S_IMPLICIT S_GAP S_INSERT_INTENTION) hZ (hw _ (List.mem_of_getElem? (i := 4) rfl)) (hw _ (List.mem_of_getElem? (i := 3) rfl)) (by decide) (by decide)) (g := (mkF m 23 #[.val (.int p1), .val (.int p2), .val (.int (6 : Int32)), .val (.int (3 : Int32)), .val (.ref w_INSERT_INTENTION), .unset] [(.int (3 : Int32))])) rfl (by rw [hml]; rfl) (argsL := [(.int (3 : Int32))]) (rest := []) (lenOf own_pd93 rfl) rfl (by show 2 * 0 + _ ≤ _; exact Nat.le_of_eq rfl) (hb hby at_23) (fun _ _ => ⟨rfl, e422, (by decide : 0 + 0 ≤ _), (by decide : 0 + 0 ≤ _)⟩)
                      dsimp only [Pt.U, Pt.locs, Pt.cells, Pt.slots] at X424 l424 y424 z424 st424 hQ424
                      subst l424 y424 z424
                      obtain ⟨hv424, N424q, e424⟩ := hQ424
                      have N425 := Fr.app N423 N424q
                      rw [show (own_f1 (3 : Int32) w_INTENTION w_TABLE w_NEXT_KEY w_RECORD w_IMPLICIT w_GAP w_INSERT_INTENTION) = w_RECORD from by first | rfl | decide | simp [own_f1]] at hv424
                      subst hv424
                      obtain ⟨cq426, kq426, q426a, q426b, q426c⟩ := isOf hZ e424 E_w_INSERT_INTENTION
                      obtain ⟨v426, _, ⟨T426, L426, k426, n426⟩, -, X426, ⟨Lc426, hQ426, l426, y426, z426⟩, st426⟩ := X424.virtualBack hx (y := (⟨"com/example/kerb/kerb/txn/LockKind", "covers", "(Lcom/example/kerb/kerb/txn/LockKind;)Z"⟩ : MethodName)) (z := (⟨"com/example/kerb/kerb/txn/LockKind", "covers", "(Lcom/example/kerb/kerb/txn/LockKind;)Z"⟩ : MethodName)) hown (mvT hZ (hw _ (List.mem_of_getElem? (i := 10) rfl))) (mvT hZ (hw _ (List.mem_of_getElem? (i := 11) rfl))) (notFace_of_selects (args := #[]) (mvT hZ (hw _ (List.mem_of_getElem? (i := 13) rfl)))) (mvT hZ (hw _ (List.mem_of_getElem? (i := 13) rfl))) (mvT hZ (hw _ (List.mem_of_getElem? (i := 12) rfl))) (by decide) (backOf (W := 0) (own_rm2 l Z a0 hw [] w_INSERT_INTENTION w_RECORD (0 : Int32) w_NEXT_KEY w_GAP w_RECORD w_IMPLICIT h0 n0 Z0 F_coversRecord_w_INSERT_INTENTION S_NEXT_KEY S_GAP S_RECORD S_IMPLICIT) hZ (hw _ (List.mem_of_getElem? (i := 14) rfl)) (hw _ (List.mem_of_getElem? (i := 6) rfl)) (by decide) (by decide)) q426a q426c (g := (mkF m 32 #[.val (.int p1), .val (.int p2), .val (.int (6 : Int32)), .val (.int (3 : Int32)), .val (.ref w_INSERT_INTENTION), .val (.ref w_RECORD)] [(.ref w_RECORD), (.ref w_INSERT_INTENTION)])) rfl (by rw [hml]; rfl) (Steps.refl _) (argsL := [(.ref w_RECORD)]) (rest := []) (lenOf own_pd94 rfl) rfl (by show 2 * 0 + _ ≤ _; exact Nat.le_of_eq rfl) (hb hby at_32) (fun _ _ => ⟨rfl, e424, (by decide : 0 + 0 ≤ _), (by decide : 0 + 0 ≤ _)⟩)
                      dsimp only [Pt.U, Pt.locs, Pt.cells, Pt.slots] at X426 l426 y426 z426 st426 hQ426
                      subst l426 y426 z426
                      obtain ⟨hv426, N426q, e426⟩ := hQ426
                      have N427 := Fr.app N425 N426q
                      rw [show (own_f2 w_INSERT_INTENTION w_RECORD (0 : Int32) w_NEXT_KEY w_GAP w_RECORD w_IMPLICIT) = (0 : Int32) from by first | rfl | decide | simp [own_f2, ne_NEXT_KEY_INSERT_INTENTION.symm, ne_RECORD_INSERT_INTENTION.symm]] at hv426
                      subst hv426
                      obtain ⟨v428, _, ⟨T428, L428, k428, n428⟩, -, X428, ⟨Lc428, hQ428, l428, y428, z428⟩, st428⟩ := Jvm.LawKit.callS X426 hx (y := (⟨"com/example/kerb/kerb/txn/LockKindCoversPinLaw", "expected", "(II)Z"⟩ : MethodName)) hown (mvT hZ (hw _ (List.mem_of_getElem? (i := 19) rfl))) (mvT hZ (hw _ (List.mem_of_getElem? (i := 20) rfl))) (mvT hZ (hw _ (List.mem_of_getElem? (i := 3) rfl))) (mvT hZ (hw _ (List.mem_of_getElem? (i := 21) rfl))) (by decide) (backOf (W := 1) (own_rm3 l Z a0 hw [] (6 : Int32) (3 : Int32) h0 n0 Z0) hZ (hw _ (List.mem_of_getElem? (i := 21) rfl)) (hw _ (List.mem_of_getElem? (i := 3) rfl)) (by decide) (by decide)) (g := (mkF m 37 #[.val (.int p1), .val (.int p2), .val (.int (6 : Int32)), .val (.int (3 : Int32)), .val (.ref w_INSERT_INTENTION), .val (.ref w_RECORD)] [(.int (3 : Int32)), (.int (6 : Int32)), (.int (0 : Int32))])) rfl (by rw [hml]; rfl) (argsL := [(.int (6 : Int32)), (.int (3 : Int32))]) (rest := [(.int (0 : Int32))]) (lenOf own_pd95 rfl) rfl (by show 2 * 0 + _ ≤ _; exact Nat.le_of_eq rfl) (hb hby at_37) (fun _ _ => ⟨rfl, e426, (by decide : 0 + 0 ≤ _), (by decide : 0 + 0 ≤ _)⟩)
                      dsimp only [Pt.U, Pt.locs, Pt.cells, Pt.slots] at X428 l428 y428 z428 st428 hQ428
                      subst l428 y428 z428
                      obtain ⟨hv428, N428q, e428⟩ := hQ428
                      have N429 := Fr.app N427 N428q
                      rw [show (own_f3 (6 : Int32) (3 : Int32)) = (0 : Int32) from by first | rfl | decide | simp [own_f3]] at hv428
                      subst hv428
                      obtain ⟨fs, hr, hrun, hended, hW, hsame⟩ := X428.leave (v := some (.int (1 : Int32))) (fun h => by rw [Bd.returns] at h; cases h)
                      refine ⟨_, _, k421 _ ?_, hrun, hended, _, _, rfl, ?_, ⟨_, rfl⟩, hW, hsame.mono (by decide) (by decide)⟩
                      · show Steps p.tables e below (s₁.setTop (mkF m 15 #[.val (.int p1), .val (.int p2), .val (.int (6 : Int32)), .unset, .unset, .unset] [(.int (3 : Int32))])) _
                        refine XS.istoreN X0.here hx rfl (hb hby at_15) rfl (l' := #[.val (.int p1), .val (.int p2), .val (.int (6 : Int32)), .val (.int (3 : Int32)), .unset, .unset]) rfl ?_
                        show Steps p.tables e below (s₁.setTop (mkF m 16 #[.val (.int p1), .val (.int p2), .val (.int (6 : Int32)), .val (.int (3 : Int32)), .unset, .unset] [])) _
                        refine XS.iloadN X0.here hx rfl (hb hby at_16) rfl ?_
                        show Steps p.tables e below (s₁.setTop (mkF m 17 #[.val (.int p1), .val (.int p2), .val (.int (6 : Int32)), .val (.int (3 : Int32)), .unset, .unset] [(.int (6 : Int32))])) _
                        refine st422 _ ?_
                        show Steps p.tables e below (T422.setTop (mkF m 20 #[.val (.int p1), .val (.int p2), .val (.int (6 : Int32)), .val (.int (3 : Int32)), .unset, .unset] [(.ref w_INSERT_INTENTION)])) _
                        refine XS.astore X422.here hx rfl (hb hby at_20) rfl rfl (l' := #[.val (.int p1), .val (.int p2), .val (.int (6 : Int32)), .val (.int (3 : Int32)), .val (.ref w_INSERT_INTENTION), .unset]) rfl ?_
                        show Steps p.tables e below (T422.setTop (mkF m 22 #[.val (.int p1), .val (.int p2), .val (.int (6 : Int32)), .val (.int (3 : Int32)), .val (.ref w_INSERT_INTENTION), .unset] [])) _
                        refine XS.iloadN X422.here hx rfl (hb hby at_22) rfl ?_
                        show Steps p.tables e below (T422.setTop (mkF m 23 #[.val (.int p1), .val (.int p2), .val (.int (6 : Int32)), .val (.int (3 : Int32)), .val (.ref w_INSERT_INTENTION), .unset] [(.int (3 : Int32))])) _
                        refine st424 _ ?_
                        show Steps p.tables e below (T424.setTop (mkF m 26 #[.val (.int p1), .val (.int p2), .val (.int (6 : Int32)), .val (.int (3 : Int32)), .val (.ref w_INSERT_INTENTION), .unset] [(.ref w_RECORD)])) _
                        refine XS.astore X424.here hx rfl (hb hby at_26) rfl rfl (l' := #[.val (.int p1), .val (.int p2), .val (.int (6 : Int32)), .val (.int (3 : Int32)), .val (.ref w_INSERT_INTENTION), .val (.ref w_RECORD)]) rfl ?_
                        show Steps p.tables e below (T424.setTop (mkF m 28 #[.val (.int p1), .val (.int p2), .val (.int (6 : Int32)), .val (.int (3 : Int32)), .val (.ref w_INSERT_INTENTION), .val (.ref w_RECORD)] [])) _
                        refine XS.aload X424.here hx rfl (hb hby at_28) rfl rfl ?_
                        show Steps p.tables e below (T424.setTop (mkF m 30 #[.val (.int p1), .val (.int p2), .val (.int (6 : Int32)), .val (.int (3 : Int32)), .val (.ref w_INSERT_INTENTION), .val (.ref w_RECORD)] [(.ref w_INSERT_INTENTION)])) _
                        refine XS.aload X424.here hx rfl (hb hby at_30) rfl rfl ?_
                        show Steps p.tables e below (T424.setTop (mkF m 32 #[.val (.int p1), .val (.int p2), .val (.int (6 : Int32)), .val (.int (3 : Int32)), .val (.ref w_INSERT_INTENTION), .val (.ref w_RECORD)] [(.ref w_RECORD), (.ref w_INSERT_INTENTION)])) _
                        refine st426.trans ?_
                        show Steps p.tables e below (T426.setTop (mkF m 35 #[.val (.int p1), .val (.int p2), .val (.int (6 : Int32)), .val (.int (3 : Int32)), .val (.ref w_INSERT_INTENTION), .val (.ref w_RECORD)] [(.int (0 : Int32))])) _
                        refine XS.iloadN X426.here hx rfl (hb hby at_35) rfl ?_
                        show Steps p.tables e below (T426.setTop (mkF m 36 #[.val (.int p1), .val (.int p2), .val (.int (6 : Int32)), .val (.int (3 : Int32)), .val (.ref w_INSERT_INTENTION), .val (.ref w_RECORD)] [(.int (6 : Int32)), (.int (0 : Int32))])) _
                        refine XS.iloadN X426.here hx rfl (hb hby at_36) rfl ?_
                        show Steps p.tables e below (T426.setTop (mkF m 37 #[.val (.int p1), .val (.int p2), .val (.int (6 : Int32)), .val (.int (3 : Int32)), .val (.ref w_INSERT_INTENTION), .val (.ref w_RECORD)] [(.int (3 : Int32)), (.int (6 : Int32)), (.int (0 : Int32))])) _
                        refine st428 _ ?_
                        show Steps p.tables e below (T428.setTop (mkF m 40 #[.val (.int p1), .val (.int p2), .val (.int (6 : Int32)), .val (.int (3 : Int32)), .val (.ref w_INSERT_INTENTION), .val (.ref w_RECORD)] [(.int (0 : Int32)), (.int (0 : Int32))])) _
                        refine XS.icmpNo X428.here hx rfl (hb hby at_40) rfl (teq (by decide : (0 : Int32) = (0 : Int32))).2 ?_
                        show Steps p.tables e below (T428.setTop (mkF m 43 #[.val (.int p1), .val (.int p2), .val (.int (6 : Int32)), .val (.int (3 : Int32)), .val (.ref w_INSERT_INTENTION), .val (.ref w_RECORD)] [])) _
                        refine XS.iconst X428.here hx rfl (hb hby at_43) ?_
                        show Steps p.tables e below (T428.setTop (mkF m 44 #[.val (.int p1), .val (.int p2), .val (.int (6 : Int32)), .val (.int (3 : Int32)), .val (.ref w_INSERT_INTENTION), .val (.ref w_RECORD)] [(.int (1 : Int32))])) _
                        refine XS.goto X428.here hx rfl (pc0 := 44) (pc' := 48) rfl (hb hby at_44) (by decide) (by decide) ?_
                        show Steps p.tables e below (T428.setTop (mkF m 48 #[.val (.int p1), .val (.int p2), .val (.int (6 : Int32)), .val (.int (3 : Int32)), .val (.ref w_INSERT_INTENTION), .val (.ref w_RECORD)] [(.int (1 : Int32))])) _
                        exact retN X428 hx (t := .boolean) Bd.returns (by simp) (hb hby at_48) hr
                      · show own_Q0 Z p1 p2 w_INTENTION w_TABLE w_NEXT_KEY w_RECORD w_IMPLICIT w_GAP w_INSERT_INTENTION h0 n0 _ T428.heap _
                        rw [e428]
                        exact ⟨(by rw [own_f0, if_neg hc1, if_neg hc9, if_neg hc17, if_neg hc25, if_neg hc33, if_neg hc41, if_neg hc50, if_neg hc51, if_neg hc52, if_pos hc53]), N429⟩
                    ·
                      by_cases hc54 : ((p2 &&& (2147483647 : Int32)) - ((p2 &&& (2147483647 : Int32)) / (7 : Int32)) * (7 : Int32)) = (4 : Int32)
                      ·
                        have k430 : ∀ t, Steps p.tables e below (s₁.setTop (mkF m 15 #[.val (.int p1), .val (.int p2), .val (.int (6 : Int32)), .unset, .unset, .unset] [(.int (4 : Int32))])) t → Steps p.tables e below (s₁.setTop (entryFrame m #[(.int p1), (.int p2)] maxLocals)) t := by
                          intro t kt
                          refine k393 t ?_
                          rw [hc54]
                          exact kt
                        obtain ⟨v431, _, ⟨T431, L431, k431, n431⟩, -, X431, ⟨Lc431, hQ431, l431, y431, z431⟩, st431⟩ := Jvm.LawKit.callS X0 hx (y := (⟨"com/example/kerb/kerb/txn/LockKindCoversPinLaw", "pick", "(I)Lcom/example/kerb/kerb/txn/LockKind;"⟩ : MethodName)) hown (mvT hZ (hw _ (List.mem_of_getElem? (i := 1) rfl))) (mvT hZ (hw _ (List.mem_of_getElem? (i := 2) rfl))) (mvT hZ (hw _ (List.mem_of_getElem? (i := 3) rfl))) (mvT hZ (hw _ (List.mem_of_getElem? (i := 4) rfl))) (by decide) (backOf (W := 0) (own_rm1 l Z a0 hw [] (6 : Int32) w_INTENTION w_TABLE w_NEXT_KEY w_RECORD w_IMPLICIT w_GAP w_INSERT_INTENTION h0 n0 Z0 S_INTENTION S_TABLE S_NEXT_KEY S_RECORD S_IMPLICIT S_GAP S_INSERT_INTENTION) hZ (hw _ (List.mem_of_getElem? (i := 4) rfl)) (hw _ (List.mem_of_getElem? (i := 3) rfl)) (by decide) (by decide)) (g := (mkF m 17 #[.val (.int p1), .val (.int p2), .val (.int (6 : Int32)), .val (.int (4 : Int32)), .unset, .unset] [(.int (6 : Int32))])) rfl (by rw [hml]; rfl) (argsL := [(.int (6 : Int32))]) (rest := []) (lenOf own_pd93 rfl) rfl (by show 2 * 0 + _ ≤ _; exact Nat.le_of_eq rfl) (hb hby at_17) (fun _ _ => ⟨rfl, e0, (by decide : 0 + 0 ≤ _), (by decide : 0 + 0 ≤ _)⟩)
                        dsimp only [Pt.U, Pt.locs, Pt.cells, Pt.slots] at X431 l431 y431 z431 st431 hQ431
                        subst l431 y431 z431
                        obtain ⟨hv431, N431q, e431⟩ := hQ431
                        have N432 := Fr.app N0 N431q
                        rw [show (own_f1 (6 : Int32) w_INTENTION w_TABLE w_NEXT_KEY w_RECORD w_IMPLICIT w_GAP w_INSERT_INTENTION) = w_INSERT_INTENTION from by first | rfl | decide | simp [own_f1]] at hv431
                        subst hv431
                        obtain ⟨v433, _, ⟨T433, L433, k433, n433⟩, -, X433, ⟨Lc433, hQ433, l433, y433, z433⟩, st433⟩ := Jvm.LawKit.callS X431 hx (y := (⟨"com/example/kerb/kerb/txn/LockKindCoversPinLaw", "pick", "(I)Lcom/example/kerb/kerb/txn/LockKind;"⟩ : MethodName)) hown (mvT hZ (hw _ (List.mem_of_getElem? (i := 1) rfl))) (mvT hZ (hw _ (List.mem_of_getElem? (i := 2) rfl))) (mvT hZ (hw _ (List.mem_of_getElem? (i := 3) rfl))) (mvT hZ (hw _ (List.mem_of_getElem? (i := 4) rfl))) (by decide) (backOf (W := 0) (own_rm1 l Z a0 hw [] (4 : Int32) w_INTENTION w_TABLE w_NEXT_KEY w_RECORD w_IMPLICIT w_GAP w_INSERT_INTENTION h0 n0 Z0 S_INTENTION S_TABLE S_NEXT_KEY S_RECORD S_IMPLICIT S_GAP S_INSERT_INTENTION) hZ (hw _ (List.mem_of_getElem? (i := 4) rfl)) (hw _ (List.mem_of_getElem? (i := 3) rfl)) (by decide) (by decide)) (g := (mkF m 23 #[.val (.int p1), .val (.int p2), .val (.int (6 : Int32)), .val (.int (4 : Int32)), .val (.ref w_INSERT_INTENTION), .unset] [(.int (4 : Int32))])) rfl (by rw [hml]; rfl) (argsL := [(.int (4 : Int32))]) (rest := []) (lenOf own_pd93 rfl) rfl (by show 2 * 0 + _ ≤ _; exact Nat.le_of_eq rfl) (hb hby at_23) (fun _ _ => ⟨rfl, e431, (by decide : 0 + 0 ≤ _), (by decide : 0 + 0 ≤ _)⟩)
                        dsimp only [Pt.U, Pt.locs, Pt.cells, Pt.slots] at X433 l433 y433 z433 st433 hQ433
                        subst l433 y433 z433
                        obtain ⟨hv433, N433q, e433⟩ := hQ433
                        have N434 := Fr.app N432 N433q
                        rw [show (own_f1 (4 : Int32) w_INTENTION w_TABLE w_NEXT_KEY w_RECORD w_IMPLICIT w_GAP w_INSERT_INTENTION) = w_IMPLICIT from by first | rfl | decide | simp [own_f1]] at hv433
                        subst hv433
                        obtain ⟨cq435, kq435, q435a, q435b, q435c⟩ := isOf hZ e433 E_w_INSERT_INTENTION
                        obtain ⟨v435, _, ⟨T435, L435, k435, n435⟩, -, X435, ⟨Lc435, hQ435, l435, y435, z435⟩, st435⟩ := X433.virtualBack hx (y := (⟨"com/example/kerb/kerb/txn/LockKind", "covers", "(Lcom/example/kerb/kerb/txn/LockKind;)Z"⟩ : MethodName)) (z := (⟨"com/example/kerb/kerb/txn/LockKind", "covers", "(Lcom/example/kerb/kerb/txn/LockKind;)Z"⟩ : MethodName)) hown (mvT hZ (hw _ (List.mem_of_getElem? (i := 10) rfl))) (mvT hZ (hw _ (List.mem_of_getElem? (i := 11) rfl))) (notFace_of_selects (args := #[]) (mvT hZ (hw _ (List.mem_of_getElem? (i := 13) rfl)))) (mvT hZ (hw _ (List.mem_of_getElem? (i := 13) rfl))) (mvT hZ (hw _ (List.mem_of_getElem? (i := 12) rfl))) (by decide) (backOf (W := 0) (own_rm2 l Z a0 hw [] w_INSERT_INTENTION w_IMPLICIT (0 : Int32) w_NEXT_KEY w_GAP w_RECORD w_IMPLICIT h0 n0 Z0 F_coversRecord_w_INSERT_INTENTION S_NEXT_KEY S_GAP S_RECORD S_IMPLICIT) hZ (hw _ (List.mem_of_getElem? (i := 14) rfl)) (hw _ (List.mem_of_getElem? (i := 6) rfl)) (by decide) (by decide)) q435a q435c (g := (mkF m 32 #[.val (.int p1), .val (.int p2), .val (.int (6 : Int32)), .val (.int (4 : Int32)), .val (.ref w_INSERT_INTENTION), .val (.ref w_IMPLICIT)] [(.ref w_IMPLICIT), (.ref w_INSERT_INTENTION)])) rfl (by rw [hml]; rfl) (Steps.refl _) (argsL := [(.ref w_IMPLICIT)]) (rest := []) (lenOf own_pd94 rfl) rfl (by show 2 * 0 + _ ≤ _; exact Nat.le_of_eq rfl) (hb hby at_32) (fun _ _ => ⟨rfl, e433, (by decide : 0 + 0 ≤ _), (by decide : 0 + 0 ≤ _)⟩)
                        dsimp only [Pt.U, Pt.locs, Pt.cells, Pt.slots] at X435 l435 y435 z435 st435 hQ435
                        subst l435 y435 z435
                        obtain ⟨hv435, N435q, e435⟩ := hQ435
                        have N436 := Fr.app N434 N435q
                        rw [show (own_f2 w_INSERT_INTENTION w_IMPLICIT (0 : Int32) w_NEXT_KEY w_GAP w_RECORD w_IMPLICIT) = (0 : Int32) from by first | rfl | decide | simp [own_f2, ne_IMPLICIT_INSERT_INTENTION.symm, ne_NEXT_KEY_INSERT_INTENTION.symm]] at hv435
                        subst hv435
                        obtain ⟨v437, _, ⟨T437, L437, k437, n437⟩, -, X437, ⟨Lc437, hQ437, l437, y437, z437⟩, st437⟩ := Jvm.LawKit.callS X435 hx (y := (⟨"com/example/kerb/kerb/txn/LockKindCoversPinLaw", "expected", "(II)Z"⟩ : MethodName)) hown (mvT hZ (hw _ (List.mem_of_getElem? (i := 19) rfl))) (mvT hZ (hw _ (List.mem_of_getElem? (i := 20) rfl))) (mvT hZ (hw _ (List.mem_of_getElem? (i := 3) rfl))) (mvT hZ (hw _ (List.mem_of_getElem? (i := 21) rfl))) (by decide) (backOf (W := 1) (own_rm3 l Z a0 hw [] (6 : Int32) (4 : Int32) h0 n0 Z0) hZ (hw _ (List.mem_of_getElem? (i := 21) rfl)) (hw _ (List.mem_of_getElem? (i := 3) rfl)) (by decide) (by decide)) (g := (mkF m 37 #[.val (.int p1), .val (.int p2), .val (.int (6 : Int32)), .val (.int (4 : Int32)), .val (.ref w_INSERT_INTENTION), .val (.ref w_IMPLICIT)] [(.int (4 : Int32)), (.int (6 : Int32)), (.int (0 : Int32))])) rfl (by rw [hml]; rfl) (argsL := [(.int (6 : Int32)), (.int (4 : Int32))]) (rest := [(.int (0 : Int32))]) (lenOf own_pd95 rfl) rfl (by show 2 * 0 + _ ≤ _; exact Nat.le_of_eq rfl) (hb hby at_37) (fun _ _ => ⟨rfl, e435, (by decide : 0 + 0 ≤ _), (by decide : 0 + 0 ≤ _)⟩)
                        dsimp only [Pt.U, Pt.locs, Pt.cells, Pt.slots] at X437 l437 y437 z437 st437 hQ437
                        subst l437 y437 z437
                        obtain ⟨hv437, N437q, e437⟩ := hQ437
                        have N438 := Fr.app N436 N437q
                        rw [show (own_f3 (6 : Int32) (4 : Int32)) = (0 : Int32) from by first | rfl | decide | simp [own_f3]] at hv437
                        subst hv437
                        obtain ⟨fs, hr, hrun, hended, hW, hsame⟩ := X437.leave (v := some (.int (1 : Int32))) (fun h => by rw [Bd.returns] at h; cases h)
                        refine ⟨_, _, k430 _ ?_, hrun, hended, _, _, rfl, ?_, ⟨_, rfl⟩, hW, hsame.mono (by decide) (by decide)⟩
                        · show Steps p.tables e below (s₁.setTop (mkF m 15 #[.val (.int p1), .val (.int p2), .val (.int (6 : Int32)), .unset, .unset, .unset] [(.int (4 : Int32))])) _
                          refine XS.istoreN X0.here hx rfl (hb hby at_15) rfl (l' := #[.val (.int p1), .val (.int p2), .val (.int (6 : Int32)), .val (.int (4 : Int32)), .unset, .unset]) rfl ?_
                          show Steps p.tables e below (s₁.setTop (mkF m 16 #[.val (.int p1), .val (.int p2), .val (.int (6 : Int32)), .val (.int (4 : Int32)), .unset, .unset] [])) _
                          refine XS.iloadN X0.here hx rfl (hb hby at_16) rfl ?_
                          show Steps p.tables e below (s₁.setTop (mkF m 17 #[.val (.int p1), .val (.int p2), .val (.int (6 : Int32)), .val (.int (4 : Int32)), .unset, .unset] [(.int (6 : Int32))])) _
                          refine st431 _ ?_
                          show Steps p.tables e below (T431.setTop (mkF m 20 #[.val (.int p1), .val (.int p2), .val (.int (6 : Int32)), .val (.int (4 : Int32)), .unset, .unset] [(.ref w_INSERT_INTENTION)])) _
                          refine XS.astore X431.here hx rfl (hb hby at_20) rfl rfl (l' := #[.val (.int p1), .val (.int p2), .val (.int (6 : Int32)), .val (.int (4 : Int32)), .val (.ref w_INSERT_INTENTION), .unset]) rfl ?_
                          show Steps p.tables e below (T431.setTop (mkF m 22 #[.val (.int p1), .val (.int p2), .val (.int (6 : Int32)), .val (.int (4 : Int32)), .val (.ref w_INSERT_INTENTION), .unset] [])) _
                          refine XS.iloadN X431.here hx rfl (hb hby at_22) rfl ?_
                          show Steps p.tables e below (T431.setTop (mkF m 23 #[.val (.int p1), .val (.int p2), .val (.int (6 : Int32)), .val (.int (4 : Int32)), .val (.ref w_INSERT_INTENTION), .unset] [(.int (4 : Int32))])) _
                          refine st433 _ ?_
                          show Steps p.tables e below (T433.setTop (mkF m 26 #[.val (.int p1), .val (.int p2), .val (.int (6 : Int32)), .val (.int (4 : Int32)), .val (.ref w_INSERT_INTENTION), .unset] [(.ref w_IMPLICIT)])) _
                          refine XS.astore X433.here hx rfl (hb hby at_26) rfl rfl (l' := #[.val (.int p1), .val (.int p2), .val (.int (6 : Int32)), .val (.int (4 : Int32)), .val (.ref w_INSERT_INTENTION), .val (.ref w_IMPLICIT)]) rfl ?_
                          show Steps p.tables e below (T433.setTop (mkF m 28 #[.val (.int p1), .val (.int p2), .val (.int (6 : Int32)), .val (.int (4 : Int32)), .val (.ref w_INSERT_INTENTION), .val (.ref w_IMPLICIT)] [])) _
                          refine XS.aload X433.here hx rfl (hb hby at_28) rfl rfl ?_
                          show Steps p.tables e below (T433.setTop (mkF m 30 #[.val (.int p1), .val (.int p2), .val (.int (6 : Int32)), .val (.int (4 : Int32)), .val (.ref w_INSERT_INTENTION), .val (.ref w_IMPLICIT)] [(.ref w_INSERT_INTENTION)])) _
                          refine XS.aload X433.here hx rfl (hb hby at_30) rfl rfl ?_
                          show Steps p.tables e below (T433.setTop (mkF m 32 #[.val (.int p1), .val (.int p2), .val (.int (6 : Int32)), .val (.int (4 : Int32)), .val (.ref w_INSERT_INTENTION), .val (.ref w_IMPLICIT)] [(.ref w_IMPLICIT), (.ref w_INSERT_INTENTION)])) _
                          refine st435.trans ?_
                          show Steps p.tables e below (T435.setTop (mkF m 35 #[.val (.int p1), .val (.int p2), .val (.int (6 : Int32)), .val (.int (4 : Int32)), .val (.ref w_INSERT_INTENTION), .val (.ref w_IMPLICIT)] [(.int (0 : Int32))])) _
                          refine XS.iloadN X435.here hx rfl (hb hby at_35) rfl ?_
                          show Steps p.tables e below (T435.setTop (mkF m 36 #[.val (.int p1), .val (.int p2), .val (.int (6 : Int32)), .val (.int (4 : Int32)), .val (.ref w_INSERT_INTENTION), .val (.ref w_IMPLICIT)] [(.int (6 : Int32)), (.int (0 : Int32))])) _
                          refine XS.iloadN X435.here hx rfl (hb hby at_36) rfl ?_
                          show Steps p.tables e below (T435.setTop (mkF m 37 #[.val (.int p1), .val (.int p2), .val (.int (6 : Int32)), .val (.int (4 : Int32)), .val (.ref w_INSERT_INTENTION), .val (.ref w_IMPLICIT)] [(.int (4 : Int32)), (.int (6 : Int32)), (.int (0 : Int32))])) _
                          refine st437 _ ?_
                          show Steps p.tables e below (T437.setTop (mkF m 40 #[.val (.int p1), .val (.int p2), .val (.int (6 : Int32)), .val (.int (4 : Int32)), .val (.ref w_INSERT_INTENTION), .val (.ref w_IMPLICIT)] [(.int (0 : Int32)), (.int (0 : Int32))])) _
                          refine XS.icmpNo X437.here hx rfl (hb hby at_40) rfl (teq (by decide : (0 : Int32) = (0 : Int32))).2 ?_
                          show Steps p.tables e below (T437.setTop (mkF m 43 #[.val (.int p1), .val (.int p2), .val (.int (6 : Int32)), .val (.int (4 : Int32)), .val (.ref w_INSERT_INTENTION), .val (.ref w_IMPLICIT)] [])) _
                          refine XS.iconst X437.here hx rfl (hb hby at_43) ?_
                          show Steps p.tables e below (T437.setTop (mkF m 44 #[.val (.int p1), .val (.int p2), .val (.int (6 : Int32)), .val (.int (4 : Int32)), .val (.ref w_INSERT_INTENTION), .val (.ref w_IMPLICIT)] [(.int (1 : Int32))])) _
                          refine XS.goto X437.here hx rfl (pc0 := 44) (pc' := 48) rfl (hb hby at_44) (by decide) (by decide) ?_
                          show Steps p.tables e below (T437.setTop (mkF m 48 #[.val (.int p1), .val (.int p2), .val (.int (6 : Int32)), .val (.int (4 : Int32)), .val (.ref w_INSERT_INTENTION), .val (.ref w_IMPLICIT)] [(.int (1 : Int32))])) _
                          exact retN X437 hx (t := .boolean) Bd.returns (by simp) (hb hby at_48) hr
                        · show own_Q0 Z p1 p2 w_INTENTION w_TABLE w_NEXT_KEY w_RECORD w_IMPLICIT w_GAP w_INSERT_INTENTION h0 n0 _ T437.heap _
                          rw [e437]
                          exact ⟨(by rw [own_f0, if_neg hc1, if_neg hc9, if_neg hc17, if_neg hc25, if_neg hc33, if_neg hc41, if_neg hc50, if_neg hc51, if_neg hc52, if_neg hc53, if_pos hc54]), N438⟩
                      ·
                        by_cases hc55 : ((p2 &&& (2147483647 : Int32)) - ((p2 &&& (2147483647 : Int32)) / (7 : Int32)) * (7 : Int32)) = (5 : Int32)
                        ·
                          have k439 : ∀ t, Steps p.tables e below (s₁.setTop (mkF m 15 #[.val (.int p1), .val (.int p2), .val (.int (6 : Int32)), .unset, .unset, .unset] [(.int (5 : Int32))])) t → Steps p.tables e below (s₁.setTop (entryFrame m #[(.int p1), (.int p2)] maxLocals)) t := by
                            intro t kt
                            refine k393 t ?_
                            rw [hc55]
                            exact kt
                          obtain ⟨v440, _, ⟨T440, L440, k440, n440⟩, -, X440, ⟨Lc440, hQ440, l440, y440, z440⟩, st440⟩ := Jvm.LawKit.callS X0 hx (y := (⟨"com/example/kerb/kerb/txn/LockKindCoversPinLaw", "pick", "(I)Lcom/example/kerb/kerb/txn/LockKind;"⟩ : MethodName)) hown (mvT hZ (hw _ (List.mem_of_getElem? (i := 1) rfl))) (mvT hZ (hw _ (List.mem_of_getElem? (i := 2) rfl))) (mvT hZ (hw _ (List.mem_of_getElem? (i := 3) rfl))) (mvT hZ (hw _ (List.mem_of_getElem? (i := 4) rfl))) (by decide) (backOf (W := 0) (own_rm1 l Z a0 hw [] (6 : Int32) w_INTENTION w_TABLE w_NEXT_KEY w_RECORD w_IMPLICIT w_GAP w_INSERT_INTENTION h0 n0 Z0 S_INTENTION S_TABLE S_NEXT_KEY S_RECORD S_IMPLICIT S_GAP S_INSERT_INTENTION) hZ (hw _ (List.mem_of_getElem? (i := 4) rfl)) (hw _ (List.mem_of_getElem? (i := 3) rfl)) (by decide) (by decide)) (g := (mkF m 17 #[.val (.int p1), .val (.int p2), .val (.int (6 : Int32)), .val (.int (5 : Int32)), .unset, .unset] [(.int (6 : Int32))])) rfl (by rw [hml]; rfl) (argsL := [(.int (6 : Int32))]) (rest := []) (lenOf own_pd93 rfl) rfl (by show 2 * 0 + _ ≤ _; exact Nat.le_of_eq rfl) (hb hby at_17) (fun _ _ => ⟨rfl, e0, (by decide : 0 + 0 ≤ _), (by decide : 0 + 0 ≤ _)⟩)
                          dsimp only [Pt.U, Pt.locs, Pt.cells, Pt.slots] at X440 l440 y440 z440 st440 hQ440
                          subst l440 y440 z440
                          obtain ⟨hv440, N440q, e440⟩ := hQ440
                          have N441 := Fr.app N0 N440q
                          rw [show (own_f1 (6 : Int32) w_INTENTION w_TABLE w_NEXT_KEY w_RECORD w_IMPLICIT w_GAP w_INSERT_INTENTION) = w_INSERT_INTENTION from by first | rfl | decide | simp [own_f1]] at hv440
                          subst hv440
                          obtain ⟨v442, _, ⟨T442, L442, k442, n442⟩, -, X442, ⟨Lc442, hQ442, l442, y442, z442⟩, st442⟩ := Jvm.LawKit.callS X440 hx (y := (⟨"com/example/kerb/kerb/txn/LockKindCoversPinLaw", "pick", "(I)Lcom/example/kerb/kerb/txn/LockKind;"⟩ : MethodName)) hown (mvT hZ (hw _ (List.mem_of_getElem? (i := 1) rfl))) (mvT hZ (hw _ (List.mem_of_getElem? (i := 2) rfl))) (mvT hZ (hw _ (List.mem_of_getElem? (i := 3) rfl))) (mvT hZ (hw _ (List.mem_of_getElem? (i := 4) rfl))) (by decide) (backOf (W := 0) (own_rm1 l Z a0 hw [] (5 : Int32) w_INTENTION w_TABLE w_NEXT_KEY w_RECORD w_IMPLICIT w_GAP w_INSERT_INTENTION h0 n0 Z0 S_INTENTION S_TABLE S_NEXT_KEY S_RECORD S_IMPLICIT S_GAP S_INSERT_INTENTION) hZ (hw _ (List.mem_of_getElem? (i := 4) rfl)) (hw _ (List.mem_of_getElem? (i := 3) rfl)) (by decide) (by decide)) (g := (mkF m 23 #[.val (.int p1), .val (.int p2), .val (.int (6 : Int32)), .val (.int (5 : Int32)), .val (.ref w_INSERT_INTENTION), .unset] [(.int (5 : Int32))])) rfl (by rw [hml]; rfl) (argsL := [(.int (5 : Int32))]) (rest := []) (lenOf own_pd93 rfl) rfl (by show 2 * 0 + _ ≤ _; exact Nat.le_of_eq rfl) (hb hby at_23) (fun _ _ => ⟨rfl, e440, (by decide : 0 + 0 ≤ _), (by decide : 0 + 0 ≤ _)⟩)
                          dsimp only [Pt.U, Pt.locs, Pt.cells, Pt.slots] at X442 l442 y442 z442 st442 hQ442
                          subst l442 y442 z442
                          obtain ⟨hv442, N442q, e442⟩ := hQ442
                          have N443 := Fr.app N441 N442q
                          rw [show (own_f1 (5 : Int32) w_INTENTION w_TABLE w_NEXT_KEY w_RECORD w_IMPLICIT w_GAP w_INSERT_INTENTION) = w_GAP from by first | rfl | decide | simp [own_f1]] at hv442
                          subst hv442
                          obtain ⟨cq444, kq444, q444a, q444b, q444c⟩ := isOf hZ e442 E_w_INSERT_INTENTION
                          obtain ⟨v444, _, ⟨T444, L444, k444, n444⟩, -, X444, ⟨Lc444, hQ444, l444, y444, z444⟩, st444⟩ := X442.virtualBack hx (y := (⟨"com/example/kerb/kerb/txn/LockKind", "covers", "(Lcom/example/kerb/kerb/txn/LockKind;)Z"⟩ : MethodName)) (z := (⟨"com/example/kerb/kerb/txn/LockKind", "covers", "(Lcom/example/kerb/kerb/txn/LockKind;)Z"⟩ : MethodName)) hown (mvT hZ (hw _ (List.mem_of_getElem? (i := 10) rfl))) (mvT hZ (hw _ (List.mem_of_getElem? (i := 11) rfl))) (notFace_of_selects (args := #[]) (mvT hZ (hw _ (List.mem_of_getElem? (i := 13) rfl)))) (mvT hZ (hw _ (List.mem_of_getElem? (i := 13) rfl))) (mvT hZ (hw _ (List.mem_of_getElem? (i := 12) rfl))) (by decide) (backOf (W := 0) (own_rm2 l Z a0 hw [] w_INSERT_INTENTION w_GAP (0 : Int32) w_NEXT_KEY w_GAP w_RECORD w_IMPLICIT h0 n0 Z0 F_coversRecord_w_INSERT_INTENTION S_NEXT_KEY S_GAP S_RECORD S_IMPLICIT) hZ (hw _ (List.mem_of_getElem? (i := 14) rfl)) (hw _ (List.mem_of_getElem? (i := 6) rfl)) (by decide) (by decide)) q444a q444c (g := (mkF m 32 #[.val (.int p1), .val (.int p2), .val (.int (6 : Int32)), .val (.int (5 : Int32)), .val (.ref w_INSERT_INTENTION), .val (.ref w_GAP)] [(.ref w_GAP), (.ref w_INSERT_INTENTION)])) rfl (by rw [hml]; rfl) (Steps.refl _) (argsL := [(.ref w_GAP)]) (rest := []) (lenOf own_pd94 rfl) rfl (by show 2 * 0 + _ ≤ _; exact Nat.le_of_eq rfl) (hb hby at_32) (fun _ _ => ⟨rfl, e442, (by decide : 0 + 0 ≤ _), (by decide : 0 + 0 ≤ _)⟩)
                          dsimp only [Pt.U, Pt.locs, Pt.cells, Pt.slots] at X444 l444 y444 z444 st444 hQ444
                          subst l444 y444 z444
                          obtain ⟨hv444, N444q, e444⟩ := hQ444
                          have N445 := Fr.app N443 N444q
                          rw [show (own_f2 w_INSERT_INTENTION w_GAP (0 : Int32) w_NEXT_KEY w_GAP w_RECORD w_IMPLICIT) = (0 : Int32) from by first | rfl | decide | simp [own_f2, ne_GAP_INSERT_INTENTION.symm, ne_NEXT_KEY_INSERT_INTENTION.symm]] at hv444
                          subst hv444
                          obtain ⟨v446, _, ⟨T446, L446, k446, n446⟩, -, X446, ⟨Lc446, hQ446, l446, y446, z446⟩, st446⟩ := Jvm.LawKit.callS X444 hx (y := (⟨"com/example/kerb/kerb/txn/LockKindCoversPinLaw", "expected", "(II)Z"⟩ : MethodName)) hown (mvT hZ (hw _ (List.mem_of_getElem? (i := 19) rfl))) (mvT hZ (hw _ (List.mem_of_getElem? (i := 20) rfl))) (mvT hZ (hw _ (List.mem_of_getElem? (i := 3) rfl))) (mvT hZ (hw _ (List.mem_of_getElem? (i := 21) rfl))) (by decide) (backOf (W := 1) (own_rm3 l Z a0 hw [] (6 : Int32) (5 : Int32) h0 n0 Z0) hZ (hw _ (List.mem_of_getElem? (i := 21) rfl)) (hw _ (List.mem_of_getElem? (i := 3) rfl)) (by decide) (by decide)) (g := (mkF m 37 #[.val (.int p1), .val (.int p2), .val (.int (6 : Int32)), .val (.int (5 : Int32)), .val (.ref w_INSERT_INTENTION), .val (.ref w_GAP)] [(.int (5 : Int32)), (.int (6 : Int32)), (.int (0 : Int32))])) rfl (by rw [hml]; rfl) (argsL := [(.int (6 : Int32)), (.int (5 : Int32))]) (rest := [(.int (0 : Int32))]) (lenOf own_pd95 rfl) rfl (by show 2 * 0 + _ ≤ _; exact Nat.le_of_eq rfl) (hb hby at_37) (fun _ _ => ⟨rfl, e444, (by decide : 0 + 0 ≤ _), (by decide : 0 + 0 ≤ _)⟩)
                          dsimp only [Pt.U, Pt.locs, Pt.cells, Pt.slots] at X446 l446 y446 z446 st446 hQ446
                          subst l446 y446 z446
                          obtain ⟨hv446, N446q, e446⟩ := hQ446
                          have N447 := Fr.app N445 N446q
                          rw [show (own_f3 (6 : Int32) (5 : Int32)) = (0 : Int32) from by first | rfl | decide | simp [own_f3]] at hv446
                          subst hv446
                          obtain ⟨fs, hr, hrun, hended, hW, hsame⟩ := X446.leave (v := some (.int (1 : Int32))) (fun h => by rw [Bd.returns] at h; cases h)
                          refine ⟨_, _, k439 _ ?_, hrun, hended, _, _, rfl, ?_, ⟨_, rfl⟩, hW, hsame.mono (by decide) (by decide)⟩
                          · show Steps p.tables e below (s₁.setTop (mkF m 15 #[.val (.int p1), .val (.int p2), .val (.int (6 : Int32)), .unset, .unset, .unset] [(.int (5 : Int32))])) _
                            refine XS.istoreN X0.here hx rfl (hb hby at_15) rfl (l' := #[.val (.int p1), .val (.int p2), .val (.int (6 : Int32)), .val (.int (5 : Int32)), .unset, .unset]) rfl ?_
                            show Steps p.tables e below (s₁.setTop (mkF m 16 #[.val (.int p1), .val (.int p2), .val (.int (6 : Int32)), .val (.int (5 : Int32)), .unset, .unset] [])) _
                            refine XS.iloadN X0.here hx rfl (hb hby at_16) rfl ?_
                            show Steps p.tables e below (s₁.setTop (mkF m 17 #[.val (.int p1), .val (.int p2), .val (.int (6 : Int32)), .val (.int (5 : Int32)), .unset, .unset] [(.int (6 : Int32))])) _
                            refine st440 _ ?_
                            show Steps p.tables e below (T440.setTop (mkF m 20 #[.val (.int p1), .val (.int p2), .val (.int (6 : Int32)), .val (.int (5 : Int32)), .unset, .unset] [(.ref w_INSERT_INTENTION)])) _
                            refine XS.astore X440.here hx rfl (hb hby at_20) rfl rfl (l' := #[.val (.int p1), .val (.int p2), .val (.int (6 : Int32)), .val (.int (5 : Int32)), .val (.ref w_INSERT_INTENTION), .unset]) rfl ?_
                            show Steps p.tables e below (T440.setTop (mkF m 22 #[.val (.int p1), .val (.int p2), .val (.int (6 : Int32)), .val (.int (5 : Int32)), .val (.ref w_INSERT_INTENTION), .unset] [])) _
                            refine XS.iloadN X440.here hx rfl (hb hby at_22) rfl ?_
                            show Steps p.tables e below (T440.setTop (mkF m 23 #[.val (.int p1), .val (.int p2), .val (.int (6 : Int32)), .val (.int (5 : Int32)), .val (.ref w_INSERT_INTENTION), .unset] [(.int (5 : Int32))])) _
                            refine st442 _ ?_
                            show Steps p.tables e below (T442.setTop (mkF m 26 #[.val (.int p1), .val (.int p2), .val (.int (6 : Int32)), .val (.int (5 : Int32)), .val (.ref w_INSERT_INTENTION), .unset] [(.ref w_GAP)])) _
                            refine XS.astore X442.here hx rfl (hb hby at_26) rfl rfl (l' := #[.val (.int p1), .val (.int p2), .val (.int (6 : Int32)), .val (.int (5 : Int32)), .val (.ref w_INSERT_INTENTION), .val (.ref w_GAP)]) rfl ?_
                            show Steps p.tables e below (T442.setTop (mkF m 28 #[.val (.int p1), .val (.int p2), .val (.int (6 : Int32)), .val (.int (5 : Int32)), .val (.ref w_INSERT_INTENTION), .val (.ref w_GAP)] [])) _
                            refine XS.aload X442.here hx rfl (hb hby at_28) rfl rfl ?_
                            show Steps p.tables e below (T442.setTop (mkF m 30 #[.val (.int p1), .val (.int p2), .val (.int (6 : Int32)), .val (.int (5 : Int32)), .val (.ref w_INSERT_INTENTION), .val (.ref w_GAP)] [(.ref w_INSERT_INTENTION)])) _
                            refine XS.aload X442.here hx rfl (hb hby at_30) rfl rfl ?_
                            show Steps p.tables e below (T442.setTop (mkF m 32 #[.val (.int p1), .val (.int p2), .val (.int (6 : Int32)), .val (.int (5 : Int32)), .val (.ref w_INSERT_INTENTION), .val (.ref w_GAP)] [(.ref w_GAP), (.ref w_INSERT_INTENTION)])) _
                            refine st444.trans ?_
                            show Steps p.tables e below (T444.setTop (mkF m 35 #[.val (.int p1), .val (.int p2), .val (.int (6 : Int32)), .val (.int (5 : Int32)), .val (.ref w_INSERT_INTENTION), .val (.ref w_GAP)] [(.int (0 : Int32))])) _
                            refine XS.iloadN X444.here hx rfl (hb hby at_35) rfl ?_
                            show Steps p.tables e below (T444.setTop (mkF m 36 #[.val (.int p1), .val (.int p2), .val (.int (6 : Int32)), .val (.int (5 : Int32)), .val (.ref w_INSERT_INTENTION), .val (.ref w_GAP)] [(.int (6 : Int32)), (.int (0 : Int32))])) _
                            refine XS.iloadN X444.here hx rfl (hb hby at_36) rfl ?_
                            show Steps p.tables e below (T444.setTop (mkF m 37 #[.val (.int p1), .val (.int p2), .val (.int (6 : Int32)), .val (.int (5 : Int32)), .val (.ref w_INSERT_INTENTION), .val (.ref w_GAP)] [(.int (5 : Int32)), (.int (6 : Int32)), (.int (0 : Int32))])) _
                            refine st446 _ ?_
                            show Steps p.tables e below (T446.setTop (mkF m 40 #[.val (.int p1), .val (.int p2), .val (.int (6 : Int32)), .val (.int (5 : Int32)), .val (.ref w_INSERT_INTENTION), .val (.ref w_GAP)] [(.int (0 : Int32)), (.int (0 : Int32))])) _
                            refine XS.icmpNo X446.here hx rfl (hb hby at_40) rfl (teq (by decide : (0 : Int32) = (0 : Int32))).2 ?_
                            show Steps p.tables e below (T446.setTop (mkF m 43 #[.val (.int p1), .val (.int p2), .val (.int (6 : Int32)), .val (.int (5 : Int32)), .val (.ref w_INSERT_INTENTION), .val (.ref w_GAP)] [])) _
                            refine XS.iconst X446.here hx rfl (hb hby at_43) ?_
                            show Steps p.tables e below (T446.setTop (mkF m 44 #[.val (.int p1), .val (.int p2), .val (.int (6 : Int32)), .val (.int (5 : Int32)), .val (.ref w_INSERT_INTENTION), .val (.ref w_GAP)] [(.int (1 : Int32))])) _
                            refine XS.goto X446.here hx rfl (pc0 := 44) (pc' := 48) rfl (hb hby at_44) (by decide) (by decide) ?_
                            show Steps p.tables e below (T446.setTop (mkF m 48 #[.val (.int p1), .val (.int p2), .val (.int (6 : Int32)), .val (.int (5 : Int32)), .val (.ref w_INSERT_INTENTION), .val (.ref w_GAP)] [(.int (1 : Int32))])) _
                            exact retN X446 hx (t := .boolean) Bd.returns (by simp) (hb hby at_48) hr
                          · show own_Q0 Z p1 p2 w_INTENTION w_TABLE w_NEXT_KEY w_RECORD w_IMPLICIT w_GAP w_INSERT_INTENTION h0 n0 _ T446.heap _
                            rw [e446]
                            exact ⟨(by rw [own_f0, if_neg hc1, if_neg hc9, if_neg hc17, if_neg hc25, if_neg hc33, if_neg hc41, if_neg hc50, if_neg hc51, if_neg hc52, if_neg hc53, if_neg hc54, if_pos hc55]), N447⟩
                        ·
                          have hc56 : ((p2 &&& (2147483647 : Int32)) - ((p2 &&& (2147483647 : Int32)) / (7 : Int32)) * (7 : Int32)) = (6 : Int32) := own_exh p2 hc50 hc51 hc52 hc53 hc54 hc55
                          have k448 : ∀ t, Steps p.tables e below (s₁.setTop (mkF m 15 #[.val (.int p1), .val (.int p2), .val (.int (6 : Int32)), .unset, .unset, .unset] [(.int (6 : Int32))])) t → Steps p.tables e below (s₁.setTop (entryFrame m #[(.int p1), (.int p2)] maxLocals)) t := by
                            intro t kt
                            refine k393 t ?_
                            rw [hc56]
                            exact kt
                          obtain ⟨v449, _, ⟨T449, L449, k449, n449⟩, -, X449, ⟨Lc449, hQ449, l449, y449, z449⟩, st449⟩ := Jvm.LawKit.callS X0 hx (y := (⟨"com/example/kerb/kerb/txn/LockKindCoversPinLaw", "pick", "(I)Lcom/example/kerb/kerb/txn/LockKind;"⟩ : MethodName)) hown (mvT hZ (hw _ (List.mem_of_getElem? (i := 1) rfl))) (mvT hZ (hw _ (List.mem_of_getElem? (i := 2) rfl))) (mvT hZ (hw _ (List.mem_of_getElem? (i := 3) rfl))) (mvT hZ (hw _ (List.mem_of_getElem? (i := 4) rfl))) (by decide) (backOf (W := 0) (own_rm1 l Z a0 hw [] (6 : Int32) w_INTENTION w_TABLE w_NEXT_KEY w_RECORD w_IMPLICIT w_GAP w_INSERT_INTENTION h0 n0 Z0 S_INTENTION S_TABLE S_NEXT_KEY S_RECORD S_IMPLICIT S_GAP S_INSERT_INTENTION) hZ (hw _ (List.mem_of_getElem? (i := 4) rfl)) (hw _ (List.mem_of_getElem? (i := 3) rfl)) (by decide) (by decide)) (g := (mkF m 17 #[.val (.int p1), .val (.int p2), .val (.int (6 : Int32)), .val (.int (6 : Int32)), .unset, .unset] [(.int (6 : Int32))])) rfl (by rw [hml]; rfl) (argsL := [(.int (6 : Int32))]) (rest := []) (lenOf own_pd93 rfl) rfl (by show 2 * 0 + _ ≤ _; exact Nat.le_of_eq rfl) (hb hby at_17) (fun _ _ => ⟨rfl, e0, (by decide : 0 + 0 ≤ _), (by decide : 0 + 0 ≤ _)⟩)
                          dsimp only [Pt.U, Pt.locs, Pt.cells, Pt.slots] at X449 l449 y449 z449 st449 hQ449
                          subst l449 y449 z449
                          obtain ⟨hv449, N449q, e449⟩ := hQ449
                          have N450 := Fr.app N0 N449q
                          rw [show (own_f1 (6 : Int32) w_INTENTION w_TABLE w_NEXT_KEY w_RECORD w_IMPLICIT w_GAP w_INSERT_INTENTION) = w_INSERT_INTENTION from by first | rfl | decide | simp [own_f1]] at hv449
                          subst hv449
                          obtain ⟨v451, _, ⟨T451, L451, k451, n451⟩, -, X451, ⟨Lc451, hQ451, l451, y451, z451⟩, st451⟩ := Jvm.LawKit.callS X449 hx (y := (⟨"com/example/kerb/kerb/txn/LockKindCoversPinLaw", "pick", "(I)Lcom/example/kerb/kerb/txn/LockKind;"⟩ : MethodName)) hown (mvT hZ (hw _ (List.mem_of_getElem? (i := 1) rfl))) (mvT hZ (hw _ (List.mem_of_getElem? (i := 2) rfl))) (mvT hZ (hw _ (List.mem_of_getElem? (i := 3) rfl))) (mvT hZ (hw _ (List.mem_of_getElem? (i := 4) rfl))) (by decide) (backOf (W := 0) (own_rm1 l Z a0 hw [] (6 : Int32) w_INTENTION w_TABLE w_NEXT_KEY w_RECORD w_IMPLICIT w_GAP w_INSERT_INTENTION h0 n0 Z0 S_INTENTION S_TABLE S_NEXT_KEY S_RECORD S_IMPLICIT S_GAP S_INSERT_INTENTION) hZ (hw _ (List.mem_of_getElem? (i := 4) rfl)) (hw _ (List.mem_of_getElem? (i := 3) rfl)) (by decide) (by decide)) (g := (mkF m 23 #[.val (.int p1), .val (.int p2), .val (.int (6 : Int32)), .val (.int (6 : Int32)), .val (.ref w_INSERT_INTENTION), .unset] [(.int (6 : Int32))])) rfl (by rw [hml]; rfl) (argsL := [(.int (6 : Int32))]) (rest := []) (lenOf own_pd93 rfl) rfl (by show 2 * 0 + _ ≤ _; exact Nat.le_of_eq rfl) (hb hby at_23) (fun _ _ => ⟨rfl, e449, (by decide : 0 + 0 ≤ _), (by decide : 0 + 0 ≤ _)⟩)
                          dsimp only [Pt.U, Pt.locs, Pt.cells, Pt.slots] at X451 l451 y451 z451 st451 hQ451
                          subst l451 y451 z451
                          obtain ⟨hv451, N451q, e451⟩ := hQ451
                          have N452 := Fr.app N450 N451q
                          rw [show (own_f1 (6 : Int32) w_INTENTION w_TABLE w_NEXT_KEY w_RECORD w_IMPLICIT w_GAP w_INSERT_INTENTION) = w_INSERT_INTENTION from by first | rfl | decide | simp [own_f1]] at hv451
                          subst hv451
                          obtain ⟨cq453, kq453, q453a, q453b, q453c⟩ := isOf hZ e451 E_w_INSERT_INTENTION
                          obtain ⟨v453, _, ⟨T453, L453, k453, n453⟩, -, X453, ⟨Lc453, hQ453, l453, y453, z453⟩, st453⟩ := X451.virtualBack hx (y := (⟨"com/example/kerb/kerb/txn/LockKind", "covers", "(Lcom/example/kerb/kerb/txn/LockKind;)Z"⟩ : MethodName)) (z := (⟨"com/example/kerb/kerb/txn/LockKind", "covers", "(Lcom/example/kerb/kerb/txn/LockKind;)Z"⟩ : MethodName)) hown (mvT hZ (hw _ (List.mem_of_getElem? (i := 10) rfl))) (mvT hZ (hw _ (List.mem_of_getElem? (i := 11) rfl))) (notFace_of_selects (args := #[]) (mvT hZ (hw _ (List.mem_of_getElem? (i := 13) rfl)))) (mvT hZ (hw _ (List.mem_of_getElem? (i := 13) rfl))) (mvT hZ (hw _ (List.mem_of_getElem? (i := 12) rfl))) (by decide) (backOf (W := 0) (own_rm2 l Z a0 hw [] w_INSERT_INTENTION w_INSERT_INTENTION (0 : Int32) w_NEXT_KEY w_GAP w_RECORD w_IMPLICIT h0 n0 Z0 F_coversRecord_w_INSERT_INTENTION S_NEXT_KEY S_GAP S_RECORD S_IMPLICIT) hZ (hw _ (List.mem_of_getElem? (i := 14) rfl)) (hw _ (List.mem_of_getElem? (i := 6) rfl)) (by decide) (by decide)) q453a q453c (g := (mkF m 32 #[.val (.int p1), .val (.int p2), .val (.int (6 : Int32)), .val (.int (6 : Int32)), .val (.ref w_INSERT_INTENTION), .val (.ref w_INSERT_INTENTION)] [(.ref w_INSERT_INTENTION), (.ref w_INSERT_INTENTION)])) rfl (by rw [hml]; rfl) (Steps.refl _) (argsL := [(.ref w_INSERT_INTENTION)]) (rest := []) (lenOf own_pd94 rfl) rfl (by show 2 * 0 + _ ≤ _; exact Nat.le_of_eq rfl) (hb hby at_32) (fun _ _ => ⟨rfl, e451, (by decide : 0 + 0 ≤ _), (by decide : 0 + 0 ≤ _)⟩)
                          dsimp only [Pt.U, Pt.locs, Pt.cells, Pt.slots] at X453 l453 y453 z453 st453 hQ453
                          subst l453 y453 z453
                          obtain ⟨hv453, N453q, e453⟩ := hQ453
                          have N454 := Fr.app N452 N453q
                          rw [show (own_f2 w_INSERT_INTENTION w_INSERT_INTENTION (0 : Int32) w_NEXT_KEY w_GAP w_RECORD w_IMPLICIT) = (1 : Int32) from by first | rfl | decide | simp [own_f2]] at hv453
                          subst hv453
                          obtain ⟨v455, _, ⟨T455, L455, k455, n455⟩, -, X455, ⟨Lc455, hQ455, l455, y455, z455⟩, st455⟩ := Jvm.LawKit.callS X453 hx (y := (⟨"com/example/kerb/kerb/txn/LockKindCoversPinLaw", "expected", "(II)Z"⟩ : MethodName)) hown (mvT hZ (hw _ (List.mem_of_getElem? (i := 19) rfl))) (mvT hZ (hw _ (List.mem_of_getElem? (i := 20) rfl))) (mvT hZ (hw _ (List.mem_of_getElem? (i := 3) rfl))) (mvT hZ (hw _ (List.mem_of_getElem? (i := 21) rfl))) (by decide) (backOf (W := 1) (own_rm3 l Z a0 hw [] (6 : Int32) (6 : Int32) h0 n0 Z0) hZ (hw _ (List.mem_of_getElem? (i := 21) rfl)) (hw _ (List.mem_of_getElem? (i := 3) rfl)) (by decide) (by decide)) (g := (mkF m 37 #[.val (.int p1), .val (.int p2), .val (.int (6 : Int32)), .val (.int (6 : Int32)), .val (.ref w_INSERT_INTENTION), .val (.ref w_INSERT_INTENTION)] [(.int (6 : Int32)), (.int (6 : Int32)), (.int (1 : Int32))])) rfl (by rw [hml]; rfl) (argsL := [(.int (6 : Int32)), (.int (6 : Int32))]) (rest := [(.int (1 : Int32))]) (lenOf own_pd95 rfl) rfl (by show 2 * 0 + _ ≤ _; exact Nat.le_of_eq rfl) (hb hby at_37) (fun _ _ => ⟨rfl, e453, (by decide : 0 + 0 ≤ _), (by decide : 0 + 0 ≤ _)⟩)
                          dsimp only [Pt.U, Pt.locs, Pt.cells, Pt.slots] at X455 l455 y455 z455 st455 hQ455
                          subst l455 y455 z455
                          obtain ⟨hv455, N455q, e455⟩ := hQ455
                          have N456 := Fr.app N454 N455q
                          rw [show (own_f3 (6 : Int32) (6 : Int32)) = (1 : Int32) from by first | rfl | decide | simp [own_f3]] at hv455
                          subst hv455
                          obtain ⟨fs, hr, hrun, hended, hW, hsame⟩ := X455.leave (v := some (.int (1 : Int32))) (fun h => by rw [Bd.returns] at h; cases h)
                          refine ⟨_, _, k448 _ ?_, hrun, hended, _, _, rfl, ?_, ⟨_, rfl⟩, hW, hsame.mono (by decide) (by decide)⟩
                          · show Steps p.tables e below (s₁.setTop (mkF m 15 #[.val (.int p1), .val (.int p2), .val (.int (6 : Int32)), .unset, .unset, .unset] [(.int (6 : Int32))])) _
                            refine XS.istoreN X0.here hx rfl (hb hby at_15) rfl (l' := #[.val (.int p1), .val (.int p2), .val (.int (6 : Int32)), .val (.int (6 : Int32)), .unset, .unset]) rfl ?_
                            show Steps p.tables e below (s₁.setTop (mkF m 16 #[.val (.int p1), .val (.int p2), .val (.int (6 : Int32)), .val (.int (6 : Int32)), .unset, .unset] [])) _
                            refine XS.iloadN X0.here hx rfl (hb hby at_16) rfl ?_
                            show Steps p.tables e below (s₁.setTop (mkF m 17 #[.val (.int p1), .val (.int p2), .val (.int (6 : Int32)), .val (.int (6 : Int32)), .unset, .unset] [(.int (6 : Int32))])) _
                            refine st449 _ ?_
                            show Steps p.tables e below (T449.setTop (mkF m 20 #[.val (.int p1), .val (.int p2), .val (.int (6 : Int32)), .val (.int (6 : Int32)), .unset, .unset] [(.ref w_INSERT_INTENTION)])) _
                            refine XS.astore X449.here hx rfl (hb hby at_20) rfl rfl (l' := #[.val (.int p1), .val (.int p2), .val (.int (6 : Int32)), .val (.int (6 : Int32)), .val (.ref w_INSERT_INTENTION), .unset]) rfl ?_
                            show Steps p.tables e below (T449.setTop (mkF m 22 #[.val (.int p1), .val (.int p2), .val (.int (6 : Int32)), .val (.int (6 : Int32)), .val (.ref w_INSERT_INTENTION), .unset] [])) _
                            refine XS.iloadN X449.here hx rfl (hb hby at_22) rfl ?_
                            show Steps p.tables e below (T449.setTop (mkF m 23 #[.val (.int p1), .val (.int p2), .val (.int (6 : Int32)), .val (.int (6 : Int32)), .val (.ref w_INSERT_INTENTION), .unset] [(.int (6 : Int32))])) _
                            refine st451 _ ?_
                            show Steps p.tables e below (T451.setTop (mkF m 26 #[.val (.int p1), .val (.int p2), .val (.int (6 : Int32)), .val (.int (6 : Int32)), .val (.ref w_INSERT_INTENTION), .unset] [(.ref w_INSERT_INTENTION)])) _
                            refine XS.astore X451.here hx rfl (hb hby at_26) rfl rfl (l' := #[.val (.int p1), .val (.int p2), .val (.int (6 : Int32)), .val (.int (6 : Int32)), .val (.ref w_INSERT_INTENTION), .val (.ref w_INSERT_INTENTION)]) rfl ?_
                            show Steps p.tables e below (T451.setTop (mkF m 28 #[.val (.int p1), .val (.int p2), .val (.int (6 : Int32)), .val (.int (6 : Int32)), .val (.ref w_INSERT_INTENTION), .val (.ref w_INSERT_INTENTION)] [])) _
                            refine XS.aload X451.here hx rfl (hb hby at_28) rfl rfl ?_
                            show Steps p.tables e below (T451.setTop (mkF m 30 #[.val (.int p1), .val (.int p2), .val (.int (6 : Int32)), .val (.int (6 : Int32)), .val (.ref w_INSERT_INTENTION), .val (.ref w_INSERT_INTENTION)] [(.ref w_INSERT_INTENTION)])) _
                            refine XS.aload X451.here hx rfl (hb hby at_30) rfl rfl ?_
                            show Steps p.tables e below (T451.setTop (mkF m 32 #[.val (.int p1), .val (.int p2), .val (.int (6 : Int32)), .val (.int (6 : Int32)), .val (.ref w_INSERT_INTENTION), .val (.ref w_INSERT_INTENTION)] [(.ref w_INSERT_INTENTION), (.ref w_INSERT_INTENTION)])) _
                            refine st453.trans ?_
                            show Steps p.tables e below (T453.setTop (mkF m 35 #[.val (.int p1), .val (.int p2), .val (.int (6 : Int32)), .val (.int (6 : Int32)), .val (.ref w_INSERT_INTENTION), .val (.ref w_INSERT_INTENTION)] [(.int (1 : Int32))])) _
                            refine XS.iloadN X453.here hx rfl (hb hby at_35) rfl ?_
                            show Steps p.tables e below (T453.setTop (mkF m 36 #[.val (.int p1), .val (.int p2), .val (.int (6 : Int32)), .val (.int (6 : Int32)), .val (.ref w_INSERT_INTENTION), .val (.ref w_INSERT_INTENTION)] [(.int (6 : Int32)), (.int (1 : Int32))])) _
                            refine XS.iloadN X453.here hx rfl (hb hby at_36) rfl ?_
                            show Steps p.tables e below (T453.setTop (mkF m 37 #[.val (.int p1), .val (.int p2), .val (.int (6 : Int32)), .val (.int (6 : Int32)), .val (.ref w_INSERT_INTENTION), .val (.ref w_INSERT_INTENTION)] [(.int (6 : Int32)), (.int (6 : Int32)), (.int (1 : Int32))])) _
                            refine st455 _ ?_
                            show Steps p.tables e below (T455.setTop (mkF m 40 #[.val (.int p1), .val (.int p2), .val (.int (6 : Int32)), .val (.int (6 : Int32)), .val (.ref w_INSERT_INTENTION), .val (.ref w_INSERT_INTENTION)] [(.int (1 : Int32)), (.int (1 : Int32))])) _
                            refine XS.icmpNo X455.here hx rfl (hb hby at_40) rfl (teq (by decide : (1 : Int32) = (1 : Int32))).2 ?_
                            show Steps p.tables e below (T455.setTop (mkF m 43 #[.val (.int p1), .val (.int p2), .val (.int (6 : Int32)), .val (.int (6 : Int32)), .val (.ref w_INSERT_INTENTION), .val (.ref w_INSERT_INTENTION)] [])) _
                            refine XS.iconst X455.here hx rfl (hb hby at_43) ?_
                            show Steps p.tables e below (T455.setTop (mkF m 44 #[.val (.int p1), .val (.int p2), .val (.int (6 : Int32)), .val (.int (6 : Int32)), .val (.ref w_INSERT_INTENTION), .val (.ref w_INSERT_INTENTION)] [(.int (1 : Int32))])) _
                            refine XS.goto X455.here hx rfl (pc0 := 44) (pc' := 48) rfl (hb hby at_44) (by decide) (by decide) ?_
                            show Steps p.tables e below (T455.setTop (mkF m 48 #[.val (.int p1), .val (.int p2), .val (.int (6 : Int32)), .val (.int (6 : Int32)), .val (.ref w_INSERT_INTENTION), .val (.ref w_INSERT_INTENTION)] [(.int (1 : Int32))])) _
                            exact retN X455 hx (t := .boolean) Bd.returns (by simp) (hb hby at_48) hr
                          · show own_Q0 Z p1 p2 w_INTENTION w_TABLE w_NEXT_KEY w_RECORD w_IMPLICIT w_GAP w_INSERT_INTENTION h0 n0 _ T455.heap _
                            rw [e455]
                            exact ⟨(by rw [own_f0, if_neg hc1, if_neg hc9, if_neg hc17, if_neg hc25, if_neg hc33, if_neg hc41, if_neg hc50, if_neg hc51, if_neg hc52, if_neg hc53, if_neg hc54, if_neg hc55]), N456⟩
theorem own_law (p1 p2 : Int32) : own_f0 p1 p2 = 1 := by
  unfold own_f0
  simp only [ite_self]
theorem own_eqF {args : Array Value} {s : State} {t : Term} {C n d : String} {x : Addr} {k : Int32} (h : (Jvm.Cond.eq (Term.field t C n d) (Term.int k)).value args s none s [] = some true) (ht : t.eval args s none [] s = some (.ref x)) : s.fieldOf? x C n d = some (.int k) := by
  obtain ⟨u, w, hu, hw, k1, k2⟩ := cmp_v (Or.inl h)
  have e1 : w = .int k := (Option.some.inj ((Term.int_eval k).symm.trans hw)).symm
  subst e1
  obtain ⟨y, rfl⟩ := k2
  rw [← fld_at ht, hu]
  rw [Cond.eq_ints hu hw] at h
  simp at h
  rw [h]
set_option maxRecDepth 65536 in
set_option maxHeartbeats 40000000 in
theorem comes_1 {Post : Tables → Env → Array Value → State → Outcome → State → Prop} (hpost : ∀ tb e args s v u, (limb_1_1.after args s (.returned v) u = true ∧ limb_1_2.after args s (.returned v) u = true ∧ True) → FrameEnd s (.returned v) u (Jvm.fieldLocs frame_1_writes args s ++ Jvm.arrayLocs frame_1_arrays args s ++ Jvm.staticLocs frame_1_statics s) 0 0 → Post tb e args s (.returned v) u) :
    ArmFor flags0 classFile x code maxLocals ret World_1 tables_1 room_1 Calls_1 rest_1 Pre_1 Post := by
  intro l hfl _ _ p e ha hc hk s m args below hf hA hF happ hP
  obtain ⟨hcalls, hrest, hpre⟩ := hP
  obtain ⟨-, -, -, hnamed, -, -, -, hat⟩ := (Spec.applies_iff hf).mp happ
  obtain ⟨hg, hn⟩ := and_e (Cond.before_iff.mp (show (Jvm.Cond.and given_1 narrow_1).before args s = true from hpre))
  obtain ⟨gg1, gg2⟩ := and_e hg
  obtain ⟨gg3, gg4⟩ := and_e gg2
  obtain ⟨w0, w1, rfl⟩ : ∃ w0 w1 : Value, args = #[w0, w1] := by
    have hs : args.size = 2 := by simpa [Cond.value, given_1] using gg1
    obtain ⟨L⟩ := args
    match L, hs with
    | [w0, w1], _ => exact ⟨w0, w1, rfl⟩
  have hw := fun d (hd : d ∈ tables_1) => atoms_spec (ws := Jvm.Cond.code x code maxLocals ret :: tables_1) hat d (List.mem_cons_of_mem _ hd)
  have hfit : Fit s := fun {y c} hc i hi => by
    obtain ⟨ha, rfl⟩ := Array.getElem?_eq_some_iff.mp hc
    have q := List.all_eq_true.mp ((Array.all_eq_true_iff_forall_mem.mp hF) _ (Array.getElem_mem ha)) i (List.mem_range.mpr hi)
    simpa [Array.getElem?_eq_getElem hi] using q
  obtain ⟨i0, ei0⟩ := is_v gg3
  obtain rfl : w0 = (.int i0) := Option.some.inj ei0
  obtain ⟨i1, ei1⟩ := is_v gg4
  obtain rfl : w1 = (.int i1) := Option.some.inj ei1
  obtain ⟨n0, r0⟩ := and_e hn
  obtain ⟨n1, r1⟩ := and_e r0
  obtain ⟨n2, r2⟩ := and_e r1
  obtain ⟨n3, r3⟩ := and_e r2
  obtain ⟨n4, r4⟩ := and_e r3
  obtain ⟨n5, r5⟩ := and_e r4
  obtain ⟨n6, r6⟩ := and_e r5
  obtain ⟨n7, r7⟩ := and_e r6
  obtain ⟨n8, r8⟩ := and_e r7
  obtain ⟨n9, r9⟩ := and_e r8
  obtain ⟨n10, r10⟩ := and_e r9
  obtain ⟨n11, r11⟩ := and_e r10
  obtain ⟨n12, r12⟩ := and_e r11
  obtain ⟨n13, r13⟩ := and_e r12
  obtain ⟨n14, r14⟩ := and_e r13
  obtain ⟨n15, r15⟩ := and_e r14
  obtain ⟨n16, r16⟩ := and_e r15
  obtain ⟨n17, r17⟩ := and_e r16
  obtain ⟨n18, r18⟩ := and_e r17
  obtain ⟨n19, r19⟩ := and_e r18
  obtain ⟨a_INTENTION, e_INTENTION⟩ := exa_v n0
  have S_INTENTION := Sta.start e_INTENTION (Or.inr ⟨(hw _ (List.mem_of_getElem? (i := 6) rfl)), (hw _ (List.mem_of_getElem? (i := 7) rfl))⟩)
  have E_INTENTION := Exa.start e_INTENTION n0
  obtain ⟨a_RECORD, e_RECORD⟩ := exa_v n1
  have S_RECORD := Sta.start e_RECORD (Or.inr ⟨(hw _ (List.mem_of_getElem? (i := 6) rfl)), (hw _ (List.mem_of_getElem? (i := 9) rfl))⟩)
  have E_RECORD := Exa.start e_RECORD n1
  obtain ⟨a_NEXT_KEY, e_NEXT_KEY⟩ := exa_v n5
  have S_NEXT_KEY := Sta.start e_NEXT_KEY (Or.inr ⟨(hw _ (List.mem_of_getElem? (i := 6) rfl)), (hw _ (List.mem_of_getElem? (i := 18) rfl))⟩)
  have E_NEXT_KEY := Exa.start e_NEXT_KEY n5
  obtain ⟨a_TABLE, e_TABLE⟩ := exa_v n7
  have S_TABLE := Sta.start e_TABLE (Or.inr ⟨(hw _ (List.mem_of_getElem? (i := 6) rfl)), (hw _ (List.mem_of_getElem? (i := 23) rfl))⟩)
  have E_TABLE := Exa.start e_TABLE n7
  obtain ⟨a_GAP, e_GAP⟩ := exa_v n9
  have S_GAP := Sta.start e_GAP (Or.inr ⟨(hw _ (List.mem_of_getElem? (i := 6) rfl)), (hw _ (List.mem_of_getElem? (i := 25) rfl))⟩)
  have E_GAP := Exa.start e_GAP n9
  obtain ⟨a_IMPLICIT, e_IMPLICIT⟩ := exa_v n12
  have S_IMPLICIT := Sta.start e_IMPLICIT (Or.inr ⟨(hw _ (List.mem_of_getElem? (i := 6) rfl)), (hw _ (List.mem_of_getElem? (i := 28) rfl))⟩)
  have E_IMPLICIT := Exa.start e_IMPLICIT n12
  obtain ⟨a_INSERT_INTENTION, e_INSERT_INTENTION⟩ := exa_v n16
  have S_INSERT_INTENTION := Sta.start e_INSERT_INTENTION (Or.inr ⟨(hw _ (List.mem_of_getElem? (i := 6) rfl)), (hw _ (List.mem_of_getElem? (i := 32) rfl))⟩)
  have E_INSERT_INTENTION := Exa.start e_INSERT_INTENTION n16
  have F_INTENTION_ordinal := Fld.start (own_eqF n2 e_INTENTION)
  have F_RECORD_ordinal := Fld.start (own_eqF n3 e_RECORD)
  have F_INTENTION_coversRecord := Fld.start (own_eqF n4 e_INTENTION)
  have F_NEXT_KEY_ordinal := Fld.start (own_eqF n6 e_NEXT_KEY)
  have F_TABLE_ordinal := Fld.start (own_eqF n8 e_TABLE)
  have F_GAP_ordinal := Fld.start (own_eqF n10 e_GAP)
  have F_RECORD_coversRecord := Fld.start (own_eqF n11 e_RECORD)
  have F_IMPLICIT_ordinal := Fld.start (own_eqF n13 e_IMPLICIT)
  have F_TABLE_coversRecord := Fld.start (own_eqF n14 e_TABLE)
  have F_IMPLICIT_coversRecord := Fld.start (own_eqF n15 e_IMPLICIT)
  have F_INSERT_INTENTION_ordinal := Fld.start (own_eqF n17 e_INSERT_INTENTION)
  have F_INSERT_INTENTION_coversRecord := Fld.start (own_eqF n18 e_INSERT_INTENTION)
  have F_GAP_coversRecord := Fld.start (own_eqF n19 e_GAP)
  have F_NEXT_KEY_coversRecord := Fld.start (own_eqF r19 e_NEXT_KEY)
  obtain ⟨n, o, h1, h2, h3, _, L, rfl, ⟨rfl, N⟩, hq⟩ := own_rm0 l s _ hw tables_1 i0 i1 a_INTENTION a_TABLE a_NEXT_KEY a_RECORD a_IMPLICIT a_GAP a_INSERT_INTENTION s.heap s.heap.size (Nat.le_refl _) (Fld.ne F_INTENTION_ordinal F_TABLE_ordinal (fun q => absurd (Value.int.inj q) (by decide))) (Fld.ne F_INTENTION_ordinal F_NEXT_KEY_ordinal (fun q => absurd (Value.int.inj q) (by decide))) (Fld.ne F_INTENTION_ordinal F_RECORD_ordinal (fun q => absurd (Value.int.inj q) (by decide))) (Fld.ne F_INTENTION_ordinal F_IMPLICIT_ordinal (fun q => absurd (Value.int.inj q) (by decide))) (Fld.ne F_INTENTION_ordinal F_GAP_ordinal (fun q => absurd (Value.int.inj q) (by decide))) (Fld.ne F_INTENTION_ordinal F_INSERT_INTENTION_ordinal (fun q => absurd (Value.int.inj q) (by decide))) (Fld.ne F_TABLE_ordinal F_NEXT_KEY_ordinal (fun q => absurd (Value.int.inj q) (by decide))) (Fld.ne F_TABLE_ordinal F_RECORD_ordinal (fun q => absurd (Value.int.inj q) (by decide))) (Fld.ne F_TABLE_ordinal F_IMPLICIT_ordinal (fun q => absurd (Value.int.inj q) (by decide))) (Fld.ne F_TABLE_ordinal F_GAP_ordinal (fun q => absurd (Value.int.inj q) (by decide))) (Fld.ne F_TABLE_ordinal F_INSERT_INTENTION_ordinal (fun q => absurd (Value.int.inj q) (by decide))) (Fld.ne F_NEXT_KEY_ordinal F_RECORD_ordinal (fun q => absurd (Value.int.inj q) (by decide))) (Fld.ne F_NEXT_KEY_ordinal F_IMPLICIT_ordinal (fun q => absurd (Value.int.inj q) (by decide))) (Fld.ne F_NEXT_KEY_ordinal F_GAP_ordinal (fun q => absurd (Value.int.inj q) (by decide))) (Fld.ne F_NEXT_KEY_ordinal F_INSERT_INTENTION_ordinal (fun q => absurd (Value.int.inj q) (by decide))) (Fld.ne F_RECORD_ordinal F_IMPLICIT_ordinal (fun q => absurd (Value.int.inj q) (by decide))) (Fld.ne F_RECORD_ordinal F_GAP_ordinal (fun q => absurd (Value.int.inj q) (by decide))) (Fld.ne F_RECORD_ordinal F_INSERT_INTENTION_ordinal (fun q => absurd (Value.int.inj q) (by decide))) (Fld.ne F_IMPLICIT_ordinal F_GAP_ordinal (fun q => absurd (Value.int.inj q) (by decide))) (Fld.ne F_IMPLICIT_ordinal F_INSERT_INTENTION_ordinal (fun q => absurd (Value.int.inj q) (by decide))) (Fld.ne F_GAP_ordinal F_INSERT_INTENTION_ordinal (fun q => absurd (Value.int.inj q) (by decide))) S_INTENTION S_TABLE S_NEXT_KEY S_RECORD S_IMPLICIT S_GAP S_INSERT_INTENTION F_INTENTION_coversRecord E_INTENTION F_TABLE_coversRecord E_TABLE F_NEXT_KEY_coversRecord E_NEXT_KEY F_RECORD_coversRecord E_RECORD F_IMPLICIT_coversRecord E_IMPLICIT F_GAP_coversRecord E_GAP F_INSERT_INTENTION_coversRecord E_INSERT_INTENTION p e ha hc hk s m _ below hf ((Spec.applies_iff_loose hf).mp happ).1 ⟨rfl, State.Warmed39.refl s, rfl⟩ trivial
  refine ⟨n, _, h1, h2, h3, hpost _ _ _ _ _ _ ⟨Cond.after_iff.mpr rfl, Cond.after_iff.mpr (eq_i res_at (Term.int_eval (1)) (congrArg Value.int (own_law i0 i1))), trivial⟩ ⟨hq.1, hq.2.1, (hq.2.2.sift fun y hy => Or.inr (N y hy)).mono (by decide) (by decide)⟩⟩
theorem main_1_1 : Claimed_1_1 := comes_1 fun _ _ _ _ _ _ h hF => ⟨h.1, hF⟩
theorem main_1_2 : Claimed_1_2 := comes_1 fun _ _ _ _ _ _ h hF => ⟨h.2.1, hF⟩
end Jvm.Pilot.@@N@@
namespace Jvm.Pilot.@@N@@
open Jvm Jvm.ClassFile Sem Op Lib Jvm.Free Jvm.Stand Jvm.Pilot.@@N@@.Jvm.D
/-! MADE BY PROGRAM (witnessworld.py) out of the Statement's table words and the real class files: 12 classes; the members and pool entries that the words name. The judged class is class 1, her method 3. -/
namespace start1
open Jvm.ClassFile
def u (s : String) : CpInfo := .utf8 (stringToUtf16 s)
/-- a pool by its gaps: so many unusable entries, then the entry; so many at the end -/
def gap : Nat → List CpInfo → List CpInfo
  | 0, r => r
  | n + 1, r => .unusable :: gap n r
def poolList (es : List (Nat × CpInfo)) (last : Nat) : List CpInfo := es.foldr (fun e r => gap e.1 (e.2 :: r)) (gap last [])
def pool (es : List (Nat × CpInfo)) (last : Nat) : Array CpInfo := ⟨poolList es last⟩
def fileOf (pool : Array CpInfo) (this : Nat) (attrs : Array Attribute := #[]) (ms : Array MethodInfo := #[]) (fl : Nat := 33) (sup : Nat := 0) (ifs : Array Nat := #[]) (fds : Array FieldInfo := #[]) : ClassFile where
  minorVersion := 0
  majorVersion := 65
  constantPool := pool
  accessFlags := fl
  thisClass := this
  superClass := sup
  interfaces := ifs
  fields := fds
  methods := ms
  attributes := attrs
def plain (name : String) (sup : Option ClassId) : Class where
  name := name
  kind := .ordinary
  loader := none
  accessFlags := 33
  super := sup
  interfaces := #[]
  cf := none
  fields := #[]
  methods := #[]
  instanceTypes := #[]
  staticTypes := #[]
  resolved := #[]
  callSites := []
  init := .initialized
  statics := none
  mirror := none

def pool0 : Array CpInfo := pool [(5, u "<init>"), (0, u "()V"), (1, .class_ 10), (1, u "java/lang/Object")] 113

def k0m0 : Method := { name := "<init>", desc := "()V", sig := { parameters := [], returnType := none }, accessFlags := 1, code := none }
/-- java/lang/Object -/
def k0 : Class := { plain "java/lang/Object" none with
  accessFlags := 33
  interfaces := #[]
  cf := some (fileOf pool0 8 #[] #[{ accessFlags := 1, nameIndex := 5, descriptorIndex := 6, attributes := #[] }] 33 0 #[] #[])
  fields := #[]
  methods := #[k0m0]
  instanceTypes := #[]
  staticTypes := #[]
  resolved := Array.replicate 124 none
  statics := none }

def pool1 : Array CpInfo := pool [(2, .class_ 4), (1, u "java/lang/Object"), (0, u "<init>"), (0, u "()V"), (0, .fieldref 8 9), (0, .class_ 10), (0, .nameAndType 11 12), (0, u "com/example/kerb/kerb/txn/LockKind"), (0, u "INTENTION"), (0, u "Lcom/example/kerb/kerb/txn/LockKind;"), (0, .fieldref 8 14), (0, .nameAndType 15 12), (0, u "TABLE"), (0, .fieldref 8 17), (0, .nameAndType 18 12), (0, u "NEXT_KEY"), (0, .fieldref 8 20), (0, .nameAndType 21 12), (0, u "RECORD"), (0, .fieldref 8 23), (0, .nameAndType 24 12), (0, u "IMPLICIT"), (0, .fieldref 8 26), (0, .nameAndType 27 12), (0, u "GAP"), (0, .fieldref 8 29), (0, .nameAndType 30 12), (0, u "INSERT_INTENTION"), (0, .integer 2147483647), (0, .methodref 33 34), (0, .class_ 35), (0, .nameAndType 36 37), (0, u "com/example/kerb/kerb/txn/LockKindCoversPinLaw"), (0, u "pick"), (0, u "(I)Lcom/example/kerb/kerb/txn/LockKind;"), (0, .methodref 8 39), (0, .nameAndType 40 41), (0, u "covers"), (0, u "(Lcom/example/kerb/kerb/txn/LockKind;)Z"), (0, .methodref 33 43), (0, .nameAndType 44 45), (0, u "expected"), (0, u "(II)Z"), (3, u "law")] 2

def k1m0 : Method := { name := "<init>", desc := "()V", sig := { parameters := [], returnType := none }, accessFlags := 1, code := none }
def k1c1 : Code := { maxStack := 2, maxLocals := 1, code := method_2_code, exceptionTable := #[], attributes := #[] }
def k1m1 : Method := { name := "pick", desc := "(I)Lcom/example/kerb/kerb/txn/LockKind;", sig := { parameters := [.int], returnType := some (.object "com/example/kerb/kerb/txn/LockKind") }, accessFlags := 10, code := some k1c1 }
def k1c2 : Code := { maxStack := 2, maxLocals := 3, code := method_3_code, exceptionTable := #[], attributes := #[] }
def k1m2 : Method := { name := "expected", desc := "(II)Z", sig := { parameters := [.int, .int], returnType := some .boolean }, accessFlags := 10, code := some k1c2 }
def k1c3 : Code := { maxStack := 3, maxLocals := 6, code := code, exceptionTable := #[], attributes := #[] }
def k1m3 : Method := { name := "law", desc := "(II)Z", sig := { parameters := [.int, .int], returnType := some .boolean }, accessFlags := 9, code := some k1c3 }
/-- com/example/kerb/kerb/txn/LockKindCoversPinLaw -/
def k1 : Class := { plain "com/example/kerb/kerb/txn/LockKindCoversPinLaw" (some 0) with
  accessFlags := 49
  interfaces := #[]
  cf := some (fileOf pool1 33 #[] #[{ accessFlags := 1, nameIndex := 5, descriptorIndex := 6, attributes := #[] }, { accessFlags := 10, nameIndex := 36, descriptorIndex := 37, attributes := #[] }, { accessFlags := 10, nameIndex := 44, descriptorIndex := 45, attributes := #[] }, { accessFlags := 9, nameIndex := 49, descriptorIndex := 45, attributes := #[] }] 49 2 #[] #[])
  fields := #[]
  methods := #[k1m0, k1m1, k1m2, k1m3]
  instanceTypes := #[]
  staticTypes := #[]
  resolved := Array.replicate 52 none
  statics := none }

def pool2 : Array CpInfo := pool [(1, .class_ 2), (0, u "java/lang/constant/Constable"), (0, .class_ 4), (0, u "java/lang/Object")] 6

/-- java/lang/constant/Constable -/
def k2 : Class := { plain "java/lang/constant/Constable" (some 0) with
  accessFlags := 1537
  interfaces := #[]
  cf := some (fileOf pool2 1 #[] #[] 1537 3 #[] #[])
  fields := #[]
  methods := #[]
  instanceTypes := #[]
  staticTypes := #[]
  resolved := Array.replicate 11 none
  statics := none }

def pool3 : Array CpInfo := pool [(1, .class_ 2), (0, u "java/lang/Comparable"), (0, .class_ 4), (0, u "java/lang/Object")] 7

/-- java/lang/Comparable -/
def k3 : Class := { plain "java/lang/Comparable" (some 0) with
  accessFlags := 1537
  interfaces := #[]
  cf := some (fileOf pool3 1 #[] #[] 1537 3 #[] #[])
  fields := #[]
  methods := #[]
  instanceTypes := #[]
  staticTypes := #[]
  resolved := Array.replicate 12 none
  statics := none }

def pool4 : Array CpInfo := pool [(1, .class_ 2), (0, u "java/io/Serializable"), (0, .class_ 4), (0, u "java/lang/Object")] 2

/-- java/io/Serializable -/
def k4 : Class := { plain "java/io/Serializable" (some 0) with
  accessFlags := 1537
  interfaces := #[]
  cf := some (fileOf pool4 1 #[] #[] 1537 3 #[] #[])
  fields := #[]
  methods := #[]
  instanceTypes := #[]
  staticTypes := #[]
  resolved := Array.replicate 7 none
  statics := none }

def pool5 : Array CpInfo := pool [(2, .class_ 4), (1, u "java/lang/Enum"), (0, u "name"), (0, u "Ljava/lang/String;"), (2, u "ordinal"), (0, u "I"), (1, .class_ 14), (1, u "java/lang/Object"), (4, u "hash"), (86, .class_ 108), (1, u "java/lang/Enum$EnumDesc"), (2, .class_ 112), (0, u "java/lang/constant/Constable"), (0, .class_ 114), (0, u "java/lang/Comparable"), (0, .class_ 116), (0, u "java/io/Serializable")] 87

/-- java/lang/Enum -/
def k5 : Class := { plain "java/lang/Enum" (some 0) with
  accessFlags := 1057
  interfaces := #[2, 3, 4]
  cf := some (fileOf pool5 2 #[.nestMembers #[106]] #[] 1057 12 #[111, 113, 115] #[{ accessFlags := 18, nameIndex := 5, descriptorIndex := 6, attributes := #[] }, { accessFlags := 18, nameIndex := 9, descriptorIndex := 10, attributes := #[] }, { accessFlags := 2, nameIndex := 19, descriptorIndex := 10, attributes := #[] }])
  fields := #[{ name := "name", type := (.object "java/lang/String"), accessFlags := 18, slot := 0, constantValue := 0 }, { name := "ordinal", type := .int, accessFlags := 18, slot := 1, constantValue := 0 }, { name := "hash", type := .int, accessFlags := 2, slot := 2, constantValue := 0 }]
  methods := #[]
  instanceTypes := #[(.object "java/lang/String"), .int, .int]
  staticTypes := #[]
  resolved := Array.replicate 204 none
  statics := none }

def pool6 : Array CpInfo := pool [(1, .class_ 2), (0, u "com/example/kerb/kerb/txn/LockKind"), (2, u "INTENTION"), (0, u "Lcom/example/kerb/kerb/txn/LockKind;"), (2, u "TABLE"), (0, .fieldref 1 11), (0, .nameAndType 12 6), (0, u "NEXT_KEY"), (0, .fieldref 1 14), (0, .nameAndType 15 6), (0, u "RECORD"), (0, .fieldref 1 17), (0, .nameAndType 18 6), (0, u "IMPLICIT"), (0, .fieldref 1 20), (0, .nameAndType 21 6), (0, u "GAP"), (2, u "INSERT_INTENTION"), (2, u "$VALUES"), (0, u "[Lcom/example/kerb/kerb/txn/LockKind;"), (6, .class_ 37), (1, u "java/lang/Enum"), (6, .fieldref 1 45), (0, .nameAndType 46 47), (0, u "coversRecord"), (0, u "Z"), (2, u "coversGap"), (22, u "covers"), (0, u "(Lcom/example/kerb/kerb/txn/LockKind;)Z")] 6

def k6c0 : Code := { maxStack := 2, maxLocals := 2, code := prog_102_method_6_code, exceptionTable := #[], attributes := #[] }
def k6m0 : Method := { name := "covers", desc := "(Lcom/example/kerb/kerb/txn/LockKind;)Z", sig := { parameters := [(.object "com/example/kerb/kerb/txn/LockKind")], returnType := some .boolean }, accessFlags := 1, code := some k6c0 }
/-- com/example/kerb/kerb/txn/LockKind -/
def k6 : Class := { plain "com/example/kerb/kerb/txn/LockKind" (some 5) with
  accessFlags := 16433
  interfaces := #[]
  cf := some (fileOf pool6 1 #[] #[{ accessFlags := 1, nameIndex := 73, descriptorIndex := 74, attributes := #[] }] 16433 35 #[] #[{ accessFlags := 16409, nameIndex := 5, descriptorIndex := 6, attributes := #[] }, { accessFlags := 16409, nameIndex := 9, descriptorIndex := 6, attributes := #[] }, { accessFlags := 16409, nameIndex := 12, descriptorIndex := 6, attributes := #[] }, { accessFlags := 16409, nameIndex := 15, descriptorIndex := 6, attributes := #[] }, { accessFlags := 16409, nameIndex := 18, descriptorIndex := 6, attributes := #[] }, { accessFlags := 16409, nameIndex := 21, descriptorIndex := 6, attributes := #[] }, { accessFlags := 16409, nameIndex := 24, descriptorIndex := 6, attributes := #[] }, { accessFlags := 18, nameIndex := 46, descriptorIndex := 47, attributes := #[] }, { accessFlags := 18, nameIndex := 50, descriptorIndex := 47, attributes := #[] }, { accessFlags := 4122, nameIndex := 27, descriptorIndex := 28, attributes := #[] }])
  fields := #[{ name := "INTENTION", type := (.object "com/example/kerb/kerb/txn/LockKind"), accessFlags := 16409, slot := 0, constantValue := 0 }, { name := "TABLE", type := (.object "com/example/kerb/kerb/txn/LockKind"), accessFlags := 16409, slot := 1, constantValue := 0 }, { name := "NEXT_KEY", type := (.object "com/example/kerb/kerb/txn/LockKind"), accessFlags := 16409, slot := 2, constantValue := 0 }, { name := "RECORD", type := (.object "com/example/kerb/kerb/txn/LockKind"), accessFlags := 16409, slot := 3, constantValue := 0 }, { name := "IMPLICIT", type := (.object "com/example/kerb/kerb/txn/LockKind"), accessFlags := 16409, slot := 4, constantValue := 0 }, { name := "GAP", type := (.object "com/example/kerb/kerb/txn/LockKind"), accessFlags := 16409, slot := 5, constantValue := 0 }, { name := "INSERT_INTENTION", type := (.object "com/example/kerb/kerb/txn/LockKind"), accessFlags := 16409, slot := 6, constantValue := 0 }, { name := "coversRecord", type := .boolean, accessFlags := 18, slot := 3, constantValue := 0 }, { name := "coversGap", type := .boolean, accessFlags := 18, slot := 4, constantValue := 0 }, { name := "$VALUES", type := (.array (.object "com/example/kerb/kerb/txn/LockKind")), accessFlags := 4122, slot := 7, constantValue := 0 }]
  methods := #[k6m0]
  instanceTypes := #[(.object "java/lang/String"), .int, .int, .boolean, .boolean]
  staticTypes := #[(.object "com/example/kerb/kerb/txn/LockKind"), (.object "com/example/kerb/kerb/txn/LockKind"), (.object "com/example/kerb/kerb/txn/LockKind"), (.object "com/example/kerb/kerb/txn/LockKind"), (.object "com/example/kerb/kerb/txn/LockKind"), (.object "com/example/kerb/kerb/txn/LockKind"), (.object "com/example/kerb/kerb/txn/LockKind"), (.array (.object "com/example/kerb/kerb/txn/LockKind"))]
  resolved := Array.replicate 81 none
  statics := some 0 }

def pool7 : Array CpInfo := pool [(1, u "java/lang/Cloneable"), (0, .class_ 1), (0, u "java/lang/Object"), (0, .class_ 3)] 3

/-- java/lang/Cloneable -/
def k7 : Class := { plain "java/lang/Cloneable" (some 0) with
  accessFlags := 1537
  interfaces := #[]
  cf := some (fileOf pool7 2 #[] #[] 1537 4 #[] #[])
  fields := #[]
  methods := #[]
  instanceTypes := #[]
  staticTypes := #[]
  resolved := Array.replicate 8 none
  statics := none }

/-- the primitive byte -/
def k8 : Class := { plain "byte" none with kind := .primitive 'B', accessFlags := 0x411 }
/-- [B -/
def k9 : Class := { plain "[B" (some 0) with kind := .array 8 .byte, interfaces := #[7, 4], accessFlags := 1041 }

/-- the primitive int -/
def k10 : Class := { plain "int" none with kind := .primitive 'I', accessFlags := 0x411 }
/-- [I -/
def k11 : Class := { plain "[I" (some 0) with kind := .array 10 .int, interfaces := #[7, 4], accessFlags := 1041 }

def heap : Heap := #[{ cls := 6, slots := #[.ref 1, .ref 2, .ref 3, .ref 4, .ref 5, .ref 6, .ref 7, .null], vm := .statics 6 },
  { cls := 6, slots := #[.null, .int 0, .int 0, .int 0, .int 0], vm := .none },
  { cls := 6, slots := #[.null, .int 1, .int 0, .int 0, .int 0], vm := .none },
  { cls := 6, slots := #[.null, .int 2, .int 0, .int 1, .int 0], vm := .none },
  { cls := 6, slots := #[.null, .int 3, .int 0, .int 1, .int 0], vm := .none },
  { cls := 6, slots := #[.null, .int 4, .int 0, .int 1, .int 0], vm := .none },
  { cls := 6, slots := #[.null, .int 5, .int 0, .int 0, .int 0], vm := .none },
  { cls := 6, slots := #[.null, .int 6, .int 0, .int 0, .int 0], vm := .none }]
def classes : Array Class := #[k0, k1, k2, k3, k4, k5, k6, k7, k8, k9, k10, k11]
def interned : List (Array UInt16 × Addr) := []
def slotsUsed : Nat := 43
def theMethod : MethodId := ⟨1, 3⟩
def args0 : Array Value := #[.int 2, .int 5]
def aboutOver (below : List Frame) : State where
  vm := { classes := classes, interned := interned.toArray }
  heap := heap
  slotsUsed := slotsUsed
  threads := #[{ frames := .invoking theMethod args0 :: below }]
def below0 : List Frame := [.native { method := ⟨0, 0⟩, args := #[] }]
def about1 : State := aboutOver below0
def p0 : Program := .bare "" "" ""
def e0 : Env := launch0.env 0 0 0
theorem w_frames : about1.frames = Frame.invoking theMethod args0 :: below0 := rfl
set_option maxRecDepth 65536 in
theorem w_args : argsFit about1.vm theMethod args0 = true := by decide +kernel
set_option maxRecDepth 65536 in
theorem w_heap : heapFits about1 = true := by decide +kernel
set_option maxRecDepth 65536 in
theorem w_runnable : about1.curStatus? = some .runnable := by decide +kernel
set_option maxRecDepth 65536 in
theorem w_alone : about1.alone = true := by decide +kernel
set_option maxRecDepth 65536 in
theorem w_named : about1.methodNamed? x = some theMethod := by decide +kernel
set_option maxRecDepth 65536 in
theorem w_hears : about1.hears theMethod below0 = true := by decide +kernel
set_option maxRecDepth 65536 in
theorem w_ripe : about1.ripe theMethod args0 below0 = true := by decide +kernel
theorem w_running : about1.status = .running := rfl
set_option maxRecDepth 65536 in
theorem w_room : about1.hasRoom e0.platform room_1 = true :=
  launch0.hasRoom_least _ room_1 (by decide +kernel) (by decide +kernel) (by decide +kernel) (by decide +kernel) (by decide +kernel) (by decide +kernel)
theorem allAtoms_all (ts : List Jvm.Cond) (a : Array Jvm.Value) (st : Jvm.State) : (allAtoms ts).before a st = ts.all (fun c => c.before a st) := by
  induction ts with
  | nil => rfl
  | cons c t ih =>
    show (Jvm.Cond.and c (allAtoms t)).before a st = _
    rw [Jvm.Cond.before_and, ih, List.all_cons]
def words1 : List Jvm.Cond := Jvm.Cond.code x code maxLocals ret :: tables_1
/-- a 'code' word, met by the world's own term for the bytes: nothing is compared byte by byte -/
theorem code_word {y : MethodName} {bytes : ByteArray} {mx : Nat} {rt : Option FieldType} {a : Array Value} {s : State} {m : MethodId} {meth : Method} {c : Code} (h1 : s.methodNamed? y = some m) (h2 : s.vm.method? m = some meth) (h3 : meth.code = some c) (h4 : c.code = bytes)
    (h5 : (c.maxLocals == mx && c.exceptionTable.isEmpty && decide (c.maxStack ≤ mostOperands) && decide (meth.sig.returnType = rt) && !meth.locks && decide (parseMethodDescriptor y.desc = some meth.sig)) = true) : (Jvm.Cond.code y bytes mx rt).before a s = true := by
  simp only [Bool.and_eq_true, beq_iff_eq, Bool.not_eq_true', decide_eq_true_eq] at h5
  obtain ⟨⟨⟨⟨⟨g1, g2⟩, g3⟩, g4⟩, g5⟩, g6⟩ := h5
  simp [Cond.before, Cond.holds, Cond.value, h1, h2, h3, h4, g1, g2, g3, g4, g5, g6]
def isCode : Jvm.Cond → Bool
  | .code _ _ _ _ => true
  | _ => false
theorem all_split {L : List Jvm.Cond} {P : Jvm.Cond → Bool} (h1 : L.all (fun c => isCode c || P c) = true) (h2 : ∀ c ∈ L.filter isCode, P c = true) : L.all P = true := by
  refine List.all_eq_true.mpr fun c hc => ?_
  have h := List.all_eq_true.mp h1 c hc
  rcases Bool.eq_false_or_eq_true (isCode c) with hi | hi
  · exact h2 c (List.mem_filter.mpr ⟨hc, hi⟩)
  · simpa [hi] using h
set_option maxRecDepth 65536 in
theorem w_c0 : (Jvm.Cond.code x code maxLocals ret).before args0 about1 = true := code_word (m := ⟨1, 3⟩) (meth := k1m3) (c := k1c3) (by decide +kernel) rfl rfl rfl (by decide +kernel)
set_option maxRecDepth 65536 in
theorem w_c1 : (Jvm.Cond.code ({ cls := "com/example/kerb/kerb/txn/LockKindCoversPinLaw", name := "pick", desc := "(I)Lcom/example/kerb/kerb/txn/LockKind;" } : Jvm.MethodName) method_2_code (1 : Nat) (Option.some (Jvm.ClassFile.FieldType.object "com/example/kerb/kerb/txn/LockKind"))).before args0 about1 = true := code_word (m := ⟨1, 1⟩) (meth := k1m1) (c := k1c1) (by decide +kernel) rfl rfl rfl (by decide +kernel)
set_option maxRecDepth 65536 in
theorem w_c2 : (Jvm.Cond.code ({ cls := "com/example/kerb/kerb/txn/LockKind", name := "covers", desc := "(Lcom/example/kerb/kerb/txn/LockKind;)Z" } : Jvm.MethodName) prog_102_method_6_code (2 : Nat) (Option.some Jvm.ClassFile.FieldType.boolean)).before args0 about1 = true := code_word (m := ⟨6, 0⟩) (meth := k6m0) (c := k6c0) (by decide +kernel) rfl rfl rfl (by decide +kernel)
set_option maxRecDepth 65536 in
theorem w_c3 : (Jvm.Cond.code ({ cls := "com/example/kerb/kerb/txn/LockKindCoversPinLaw", name := "expected", desc := "(II)Z" } : Jvm.MethodName) method_3_code (3 : Nat) (Option.some Jvm.ClassFile.FieldType.boolean)).before args0 about1 = true := code_word (m := ⟨1, 2⟩) (meth := k1m2) (c := k1c2) (by decide +kernel) rfl rfl rfl (by decide +kernel)
def codes1 : List Jvm.Cond := [Jvm.Cond.code x code maxLocals ret, Jvm.Cond.code ({ cls := "com/example/kerb/kerb/txn/LockKindCoversPinLaw", name := "pick", desc := "(I)Lcom/example/kerb/kerb/txn/LockKind;" } : Jvm.MethodName) method_2_code (1 : Nat) (Option.some (Jvm.ClassFile.FieldType.object "com/example/kerb/kerb/txn/LockKind")), Jvm.Cond.code ({ cls := "com/example/kerb/kerb/txn/LockKind", name := "covers", desc := "(Lcom/example/kerb/kerb/txn/LockKind;)Z" } : Jvm.MethodName) prog_102_method_6_code (2 : Nat) (Option.some Jvm.ClassFile.FieldType.boolean), Jvm.Cond.code ({ cls := "com/example/kerb/kerb/txn/LockKindCoversPinLaw", name := "expected", desc := "(II)Z" } : Jvm.MethodName) method_3_code (3 : Nat) (Option.some Jvm.ClassFile.FieldType.boolean)]
set_option maxRecDepth 65536 in
theorem codes_eq : words1.filter isCode = codes1 := rfl
theorem w_codes : ∀ c ∈ words1.filter isCode, c.before args0 about1 = true := by
  rw [codes_eq]
  intro c hc
  simp only [codes1, List.mem_cons, List.not_mem_nil, or_false] at hc
  rcases hc with rfl | rfl | rfl | rfl
  · exact w_c0
  · exact w_c1
  · exact w_c2
  · exact w_c3
set_option maxRecDepth 65536 in
theorem w_t1 : (words1.take 24).all (fun c => isCode c || c.before args0 about1) = true := by decide +kernel
set_option maxRecDepth 65536 in
theorem w_t2 : (words1.drop 24).all (fun c => isCode c || c.before args0 about1) = true := by decide +kernel
theorem w_tables : (allAtoms (Jvm.Cond.code x code maxLocals ret :: tables_1)).before args0 about1 = true := by
  rw [allAtoms_all]
  show words1.all (fun c => c.before args0 about1) = true
  refine all_split ?_ w_codes
  rw [← List.take_append_drop 24 words1, List.all_append, w_t1, w_t2]
  rfl
set_option maxRecDepth 65536 in
theorem w_case : (Jvm.Cond.and given_1 narrow_1).before args0 about1 = true := by decide +kernel
theorem w_applies : (headSpec (Jvm.Cond.code x code maxLocals ret :: tables_1) room_1).applies x e0.platform about1 = true :=
  (Spec.applies_iff w_frames).mpr ⟨w_running, w_runnable, w_alone, w_named, w_hears, w_ripe, w_room, w_tables⟩
theorem atStart : AtStart classFile x code maxLocals ret World_1 tables_1 room_1 Calls_1 rest_1 Pre_1 launch0 p0 e0 about1 theMethod args0 below0 :=
  ⟨lists_1, trivial, launch0.admits_env _ _ _, launch0.least_env, fairChoices_fair.cas, fairChoices_fair.clock, w_frames, w_args, w_heap, w_applies, trivial, trivial, w_case⟩
end start1
theorem witness_1 : WitnessClaimed_1 := ⟨start1.p0, start1.e0, start1.about1, start1.theMethod, start1.args0, start1.below0, start1.atStart⟩
end Jvm.Pilot.@@N@@
