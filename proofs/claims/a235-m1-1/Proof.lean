import JvmDerived
import JvmDerived.Pilot.@@N@@Statement
import JvmDerived.Pilot.@@N@@Code
set_option linter.unusedVariables false
set_option linter.unusedSimpArgs false
namespace Jvm.RoadKit
open Sem ClassFile Op Lib Jvm.Stand Jvm.Free Jvm.LawKit
section New
variable {p : Program} {l : Launch} {e : Env} {R : Room} {s : State} {m : MethodId} {args : Array Value} {below : List Frame} {meth : Method} {c : Code} {T : State} {locs : List Loc} {cells slots : Nat}
theorem retI (X : Stand p l e R s m args below meth c T locs cells slots) (hx : p.tables.exec = Jvm.exec) {pc : Nat} {Ls : Array Slot} {z : Int32} {rest : List Value} (hret : meth.sig.returnType = some .int) (hd : decode c.code pc = .ok (.ireturn, 1)) {fs : List Frame}
    (hl : ∀ (f : JFrame) (acts : List Action), f.method = m → f.locked = none → f.entered = [] → (doReturn e (T.setTop f) acts (some (.int z))).1 = T.setFrames fs) : Steps p.tables e below (T.setTop (mkF m pc Ls (.int z :: rest))) (T.setFrames fs) := by
  have hm' : T.vm.method? m = some meth := X.method'
  have hn : narrow .int (.int z) = .int z := rfl
  show Steps p.tables e below (T.setTop { method := m, pc := pc, locals := Ls, stack := _ :: rest, locked := none }) _
  jvm_step X.here [X.here.top, hx, hd, hm', hret, hn]
  first | (intro acts; rw [hl _ acts rfl rfl rfl]) | rw [hl _ _ rfl rfl rfl]
  exact Steps.refl _
end New
end Jvm.RoadKit
namespace Jvm.Pilot.@@N@@
open Jvm Jvm.ClassFile Sem Op Lib Jvm.Free Jvm.Stand Jvm.LawKit Jvm.RoadKit Bundle Jvm.Pilot.@@N@@.Jvm.D
theorem own_tswOut1_1 {x : Int32} (h0 : ¬ x = (0 : Int32)) (h1 : ¬ x = (1 : Int32)) (h2 : ¬ x = (2 : Int32)) (h3 : ¬ x = (3 : Int32)) (h4 : ¬ x = (4 : Int32)) (h5 : ¬ x = (5 : Int32)) (h6 : ¬ x = (6 : Int32)) (h7 : ¬ x = (7 : Int32)) (h8 : ¬ x = (8 : Int32)) (h9 : ¬ x = (9 : Int32)) (h10 : ¬ x = (10 : Int32)) (h11 : ¬ x = (11 : Int32)) (h12 : ¬ x = (12 : Int32)) : x.toInt < 0 ∨ x.toInt > 12 := by
  rw [← Int32.toInt_inj] at h0; have e0 : (0 : Int32).toInt = 0 := by decide
  rw [e0] at h0
  rw [← Int32.toInt_inj] at h1; have e1 : (1 : Int32).toInt = 1 := by decide
  rw [e1] at h1
  rw [← Int32.toInt_inj] at h2; have e2 : (2 : Int32).toInt = 2 := by decide
  rw [e2] at h2
  rw [← Int32.toInt_inj] at h3; have e3 : (3 : Int32).toInt = 3 := by decide
  rw [e3] at h3
  rw [← Int32.toInt_inj] at h4; have e4 : (4 : Int32).toInt = 4 := by decide
  rw [e4] at h4
  rw [← Int32.toInt_inj] at h5; have e5 : (5 : Int32).toInt = 5 := by decide
  rw [e5] at h5
  rw [← Int32.toInt_inj] at h6; have e6 : (6 : Int32).toInt = 6 := by decide
  rw [e6] at h6
  rw [← Int32.toInt_inj] at h7; have e7 : (7 : Int32).toInt = 7 := by decide
  rw [e7] at h7
  rw [← Int32.toInt_inj] at h8; have e8 : (8 : Int32).toInt = 8 := by decide
  rw [e8] at h8
  rw [← Int32.toInt_inj] at h9; have e9 : (9 : Int32).toInt = 9 := by decide
  rw [e9] at h9
  rw [← Int32.toInt_inj] at h10; have e10 : (10 : Int32).toInt = 10 := by decide
  rw [e10] at h10
  rw [← Int32.toInt_inj] at h11; have e11 : (11 : Int32).toInt = 11 := by decide
  rw [e11] at h11
  rw [← Int32.toInt_inj] at h12; have e12 : (12 : Int32).toInt = 12 := by decide
  rw [e12] at h12
  omega
theorem own_pn1 : plainName "com/example/castd/castd/mqtt/PacketTypeFirstBytePinLaw" = true := by first | (simp [plainName, overriddenIn]; done) | decide +kernel
theorem own_pn32 : plainName "com/example/castd/castd/mqtt/PacketType" = true := by first | (simp [plainName, overriddenIn]; done) | decide +kernel
theorem own_tswOut3_1 {x : Int32} (h0 : ¬ x = (0 : Int32)) (h1 : ¬ x = (1 : Int32)) (h2 : ¬ x = (2 : Int32)) (h3 : ¬ x = (3 : Int32)) (h4 : ¬ x = (4 : Int32)) (h5 : ¬ x = (5 : Int32)) (h6 : ¬ x = (6 : Int32)) (h7 : ¬ x = (7 : Int32)) (h8 : ¬ x = (8 : Int32)) (h9 : ¬ x = (9 : Int32)) (h10 : ¬ x = (10 : Int32)) (h11 : ¬ x = (11 : Int32)) (h12 : ¬ x = (12 : Int32)) : x.toInt < 0 ∨ x.toInt > 12 := by
  rw [← Int32.toInt_inj] at h0; have e0 : (0 : Int32).toInt = 0 := by decide
  rw [e0] at h0
  rw [← Int32.toInt_inj] at h1; have e1 : (1 : Int32).toInt = 1 := by decide
  rw [e1] at h1
  rw [← Int32.toInt_inj] at h2; have e2 : (2 : Int32).toInt = 2 := by decide
  rw [e2] at h2
  rw [← Int32.toInt_inj] at h3; have e3 : (3 : Int32).toInt = 3 := by decide
  rw [e3] at h3
  rw [← Int32.toInt_inj] at h4; have e4 : (4 : Int32).toInt = 4 := by decide
  rw [e4] at h4
  rw [← Int32.toInt_inj] at h5; have e5 : (5 : Int32).toInt = 5 := by decide
  rw [e5] at h5
  rw [← Int32.toInt_inj] at h6; have e6 : (6 : Int32).toInt = 6 := by decide
  rw [e6] at h6
  rw [← Int32.toInt_inj] at h7; have e7 : (7 : Int32).toInt = 7 := by decide
  rw [e7] at h7
  rw [← Int32.toInt_inj] at h8; have e8 : (8 : Int32).toInt = 8 := by decide
  rw [e8] at h8
  rw [← Int32.toInt_inj] at h9; have e9 : (9 : Int32).toInt = 9 := by decide
  rw [e9] at h9
  rw [← Int32.toInt_inj] at h10; have e10 : (10 : Int32).toInt = 10 := by decide
  rw [e10] at h10
  rw [← Int32.toInt_inj] at h11; have e11 : (11 : Int32).toInt = 11 := by decide
  rw [e11] at h11
  rw [← Int32.toInt_inj] at h12; have e12 : (12 : Int32).toInt = 12 := by decide
  rw [e12] at h12
  omega
theorem own_pd82 : parseMethodDescriptor "()[Lcom/example/castd/castd/mqtt/PacketType;" = some ⟨[], some (.array (.object "com/example/castd/castd/mqtt/PacketType"))⟩ := by decide +kernel
theorem own_staKeep {Z : State} {h h' : Heap} {C n d : String} {v : Value} (F : Sta Z h C n d v) (K : Keep h h' []) : Sta Z h' C n d v := by
  obtain ⟨cf, i, k, f, st, cell, h1, h2, h3, h4, h5, r⟩ := F
  exact ⟨cf, i, k, f, st, cell, h1, h2, h3, h4, K.2.1 _ _ h5 (fun q => nomatch q), r⟩
theorem own_pd119 : parseMethodDescriptor "(I)Lcom/example/castd/castd/mqtt/PacketType;" = some ⟨[.int], some (.object "com/example/castd/castd/mqtt/PacketType")⟩ := by decide +kernel
theorem own_pd120 : parseMethodDescriptor "(I)I" = some ⟨[.int], some .int⟩ := by decide +kernel
theorem own_rng (p d : Int32) (D : Int) (hd : d.toInt = D) (h1 : 1 < D) : 0 ≤ ((p &&& (2147483647 : Int32)) - ((p &&& (2147483647 : Int32)) / d) * d).toInt ∧ ((p &&& (2147483647 : Int32)) - ((p &&& (2147483647 : Int32)) / d) * d).toInt < D := by
  have hx : 0 ≤ (p &&& (2147483647 : Int32)).toInt := by
    have := c_mask p 2147483647 31 (by decide) (by decide); omega
  generalize (p &&& (2147483647 : Int32)) = x at hx
  have r := rng32 x
  have hn : d ≠ -1 := fun q => by rw [q] at hd; have e : (-1 : Int32).toInt = -1 := by decide
                                  omega
  have e1 := (c_idiv x d D hd hn).1 hx
  have e2 : (x / d * d).toInt = x.toInt / D * D := by
    rw [Int32.toInt_mul, e1, hd]
    have m1 := Int.emod_nonneg x.toInt (show D ≠ 0 by omega)
    have m2 := Int.emod_lt_of_pos x.toInt (show 0 < D by omega)
    have m3 := Int.mul_ediv_add_emod x.toInt D
    have m4 : 0 ≤ x.toInt / D := Int.ediv_nonneg hx (by omega)
    have m5 : 0 ≤ x.toInt / D * D := Int.mul_nonneg m4 (by omega)
    rw [Int.mul_comm] at m3
    exact Int.bmod_eq_of_le (by omega) (by omega)
  have m1 := Int.emod_nonneg x.toInt (show D ≠ 0 by omega)
  have m2 := Int.emod_lt_of_pos x.toInt (show 0 < D by omega)
  have m3 := Int.mul_ediv_add_emod x.toInt D
  rw [Int.mul_comm] at m3
  have m4 : 0 ≤ x.toInt / D := Int.ediv_nonneg hx (by omega)
  have m5 : 0 ≤ x.toInt / D * D := Int.mul_nonneg m4 (by omega)
  have e3 : (x - x / d * d).toInt = x.toInt - x.toInt / D * D := by
    rw [Int32.toInt_sub, e2]
    exact Int.bmod_eq_of_le (by omega) (by omega)
  rw [e3]; omega
theorem own_ne {v k : Int32} {K : Int} (h : ¬ v = k) (hk : k.toInt = K) : v.toInt ≠ K := fun q => h (Int32.toInt_inj.mp (q.trans hk.symm))
theorem own_exh (p : Int32) (h0 : ¬ ((p &&& (2147483647 : Int32)) - ((p &&& (2147483647 : Int32)) / (14 : Int32)) * (14 : Int32)) = (0 : Int32)) (h1 : ¬ ((p &&& (2147483647 : Int32)) - ((p &&& (2147483647 : Int32)) / (14 : Int32)) * (14 : Int32)) = (1 : Int32)) (h2 : ¬ ((p &&& (2147483647 : Int32)) - ((p &&& (2147483647 : Int32)) / (14 : Int32)) * (14 : Int32)) = (2 : Int32)) (h3 : ¬ ((p &&& (2147483647 : Int32)) - ((p &&& (2147483647 : Int32)) / (14 : Int32)) * (14 : Int32)) = (3 : Int32)) (h4 : ¬ ((p &&& (2147483647 : Int32)) - ((p &&& (2147483647 : Int32)) / (14 : Int32)) * (14 : Int32)) = (4 : Int32)) (h5 : ¬ ((p &&& (2147483647 : Int32)) - ((p &&& (2147483647 : Int32)) / (14 : Int32)) * (14 : Int32)) = (5 : Int32)) (h6 : ¬ ((p &&& (2147483647 : Int32)) - ((p &&& (2147483647 : Int32)) / (14 : Int32)) * (14 : Int32)) = (6 : Int32)) (h7 : ¬ ((p &&& (2147483647 : Int32)) - ((p &&& (2147483647 : Int32)) / (14 : Int32)) * (14 : Int32)) = (7 : Int32)) (h8 : ¬ ((p &&& (2147483647 : Int32)) - ((p &&& (2147483647 : Int32)) / (14 : Int32)) * (14 : Int32)) = (8 : Int32)) (h9 : ¬ ((p &&& (2147483647 : Int32)) - ((p &&& (2147483647 : Int32)) / (14 : Int32)) * (14 : Int32)) = (9 : Int32)) (h10 : ¬ ((p &&& (2147483647 : Int32)) - ((p &&& (2147483647 : Int32)) / (14 : Int32)) * (14 : Int32)) = (10 : Int32)) (h11 : ¬ ((p &&& (2147483647 : Int32)) - ((p &&& (2147483647 : Int32)) / (14 : Int32)) * (14 : Int32)) = (11 : Int32)) (h12 : ¬ ((p &&& (2147483647 : Int32)) - ((p &&& (2147483647 : Int32)) / (14 : Int32)) * (14 : Int32)) = (12 : Int32)) : ((p &&& (2147483647 : Int32)) - ((p &&& (2147483647 : Int32)) / (14 : Int32)) * (14 : Int32)) = (13 : Int32) := by
  have r := own_rng p 14 14 (by decide) (by decide)
  have n0 := own_ne (K := 0) h0 (by decide)
  have n1 := own_ne (K := 1) h1 (by decide)
  have n2 := own_ne (K := 2) h2 (by decide)
  have n3 := own_ne (K := 3) h3 (by decide)
  have n4 := own_ne (K := 4) h4 (by decide)
  have n5 := own_ne (K := 5) h5 (by decide)
  have n6 := own_ne (K := 6) h6 (by decide)
  have n7 := own_ne (K := 7) h7 (by decide)
  have n8 := own_ne (K := 8) h8 (by decide)
  have n9 := own_ne (K := 9) h9 (by decide)
  have n10 := own_ne (K := 10) h10 (by decide)
  have n11 := own_ne (K := 11) h11 (by decide)
  have n12 := own_ne (K := 12) h12 (by decide)
  refine Int32.toInt_inj.mp ?_
  rw [show (13 : Int32).toInt = 13 from by decide]
  omega
theorem own_hi (y : Int32) : ((((48 : Int32) ||| (y &&& (15 : Int32))) >>> ((4 : Int32) &&& 31)) &&& (15 : Int32)) = (3 : Int32) := by
  have h1 := c_mask y 15 4 (by decide) (by decide)
  have h2 : (y &&& 15).toBitVec.toNat < 16 := by
    show (y.toBitVec &&& (15 : Int32).toBitVec).toNat < 16
    rw [BitVec.toNat_and]
    exact Nat.lt_of_le_of_lt Nat.and_le_right (by decide)
  have h3 : (y &&& 15) = Int32.ofBitVec (BitVec.ofNat 32 (y &&& 15).toBitVec.toNat) := by
    apply Int32.toBitVec_inj.mp
    show (y &&& 15).toBitVec = BitVec.ofNat 32 (y &&& 15).toBitVec.toNat
    rw [BitVec.ofNat_toNat, BitVec.setWidth_eq]
  rw [h3]
  generalize (y &&& 15).toBitVec.toNat = n at h2
  have : ∀ n : Fin 16, ((((48 : Int32) ||| (Int32.ofBitVec (BitVec.ofNat 32 n.val))) >>> ((4 : Int32) &&& 31)) &&& (15 : Int32)) = (3 : Int32) := by decide +kernel
  exact this ⟨n, h2⟩
-- body 1
theorem own_d1_0 : decode method_3_code 0 = .ok (.iload_n 0, 1) := by decide +kernel
theorem own_d1_1 : decode method_3_code 1 = .ok (.tableswitch 119 0 12 #[67, 71, 75, 79, 83, 87, 91, 95, 99, 103, 107, 111, 115], 67) := by decide +kernel
theorem own_d1_68 : decode method_3_code 68 = .ok (.getstatic 26, 3) := by decide +kernel
theorem own_d1_71 : decode method_3_code 71 = .ok (.areturn, 1) := by decide +kernel
theorem own_d1_72 : decode method_3_code 72 = .ok (.getstatic 30, 3) := by decide +kernel
theorem own_d1_75 : decode method_3_code 75 = .ok (.areturn, 1) := by decide +kernel
theorem own_d1_76 : decode method_3_code 76 = .ok (.getstatic 33, 3) := by decide +kernel
theorem own_d1_79 : decode method_3_code 79 = .ok (.areturn, 1) := by decide +kernel
theorem own_d1_80 : decode method_3_code 80 = .ok (.getstatic 36, 3) := by decide +kernel
theorem own_d1_83 : decode method_3_code 83 = .ok (.areturn, 1) := by decide +kernel
theorem own_d1_84 : decode method_3_code 84 = .ok (.getstatic 39, 3) := by decide +kernel
theorem own_d1_87 : decode method_3_code 87 = .ok (.areturn, 1) := by decide +kernel
theorem own_d1_88 : decode method_3_code 88 = .ok (.getstatic 42, 3) := by decide +kernel
theorem own_d1_91 : decode method_3_code 91 = .ok (.areturn, 1) := by decide +kernel
theorem own_d1_92 : decode method_3_code 92 = .ok (.getstatic 45, 3) := by decide +kernel
theorem own_d1_95 : decode method_3_code 95 = .ok (.areturn, 1) := by decide +kernel
theorem own_d1_96 : decode method_3_code 96 = .ok (.getstatic 48, 3) := by decide +kernel
theorem own_d1_99 : decode method_3_code 99 = .ok (.areturn, 1) := by decide +kernel
theorem own_d1_100 : decode method_3_code 100 = .ok (.getstatic 51, 3) := by decide +kernel
theorem own_d1_103 : decode method_3_code 103 = .ok (.areturn, 1) := by decide +kernel
theorem own_d1_104 : decode method_3_code 104 = .ok (.getstatic 54, 3) := by decide +kernel
theorem own_d1_107 : decode method_3_code 107 = .ok (.areturn, 1) := by decide +kernel
theorem own_d1_108 : decode method_3_code 108 = .ok (.getstatic 57, 3) := by decide +kernel
theorem own_d1_111 : decode method_3_code 111 = .ok (.areturn, 1) := by decide +kernel
theorem own_d1_112 : decode method_3_code 112 = .ok (.getstatic 60, 3) := by decide +kernel
theorem own_d1_115 : decode method_3_code 115 = .ok (.areturn, 1) := by decide +kernel
theorem own_d1_116 : decode method_3_code 116 = .ok (.getstatic 63, 3) := by decide +kernel
theorem own_d1_119 : decode method_3_code 119 = .ok (.areturn, 1) := by decide +kernel
theorem own_d1_120 : decode method_3_code 120 = .ok (.getstatic 66, 3) := by decide +kernel
theorem own_d1_123 : decode method_3_code 123 = .ok (.areturn, 1) := by decide +kernel
theorem own_ef1 (m : MethodId) (x0 : Int32) : entryFrame m #[(.int x0)] 1 = mkF m 0 #[.val (.int x0)] [] := by first | (simp [entryFrame, mkF, argsToLocals, Value.category]; done) | rfl
def own_f1 (p1 : Int32) (w_CONNECT : Addr) (w_CONNACK : Addr) (w_PUBLISH : Addr) (w_PUBACK : Addr) (w_PUBREC : Addr) (w_PUBREL : Addr) (w_PUBCOMP : Addr) (w_SUBSCRIBE : Addr) (w_SUBACK : Addr) (w_UNSUBSCRIBE : Addr) (w_UNSUBACK : Addr) (w_PINGREQ : Addr) (w_PINGRESP : Addr) (w_DISCONNECT : Addr) : Addr := if p1 = (0 : Int32) then w_CONNECT
    else if p1 = (1 : Int32) then w_CONNACK
      else if p1 = (2 : Int32) then w_PUBLISH
        else if p1 = (3 : Int32) then w_PUBACK
          else if p1 = (4 : Int32) then w_PUBREC
            else if p1 = (5 : Int32) then w_PUBREL
              else if p1 = (6 : Int32) then w_PUBCOMP
                else if p1 = (7 : Int32) then w_SUBSCRIBE
                  else if p1 = (8 : Int32) then w_SUBACK
                    else if p1 = (9 : Int32) then w_UNSUBSCRIBE
                      else if p1 = (10 : Int32) then w_UNSUBACK
                        else if p1 = (11 : Int32) then w_PINGREQ
                          else if p1 = (12 : Int32) then w_PINGRESP
                            else w_DISCONNECT
def own_Q1 (Z : State) (p1 : Int32) (w_CONNECT : Addr) (w_CONNACK : Addr) (w_PUBLISH : Addr) (w_PUBACK : Addr) (w_PUBREC : Addr) (w_PUBREL : Addr) (w_PUBCOMP : Addr) (w_SUBSCRIBE : Addr) (w_SUBACK : Addr) (w_UNSUBSCRIBE : Addr) (w_UNSUBACK : Addr) (w_PINGREQ : Addr) (w_PINGRESP : Addr) (w_DISCONNECT : Addr) (h0 : Heap) (n0 : Nat) (v : Option Value) (h : Heap) (L : List Loc) : Prop := v = some (.ref (own_f1 p1 w_CONNECT w_CONNACK w_PUBLISH w_PUBACK w_PUBREC w_PUBREL w_PUBCOMP w_SUBSCRIBE w_SUBACK w_UNSUBSCRIBE w_UNSUBACK w_PINGREQ w_PINGRESP w_DISCONNECT)) ∧ Fr n0 L ∧ h = h0
set_option maxRecDepth 65536 in
set_option maxHeartbeats 40000000 in
theorem own_rm1 (l : Launch) (Z : State) (a0 : Array Value) (hw : ∀ d ∈ tables_1, d.before a0 Z = true) (ws : List Jvm.Cond) (p1 : Int32) (w_CONNECT : Addr) (w_CONNACK : Addr) (w_PUBLISH : Addr) (w_PUBACK : Addr) (w_PUBREC : Addr) (w_PUBREL : Addr) (w_PUBCOMP : Addr) (w_SUBSCRIBE : Addr) (w_SUBACK : Addr) (w_UNSUBSCRIBE : Addr) (w_UNSUBACK : Addr) (w_PINGREQ : Addr) (w_PINGRESP : Addr) (w_DISCONNECT : Addr) (h0 : Heap) (n0 : Nat) (Z0 : n0 ≤ h0.size) (S_CONNECT : Sta Z h0 "com/example/castd/castd/mqtt/PacketType" "CONNECT" "Lcom/example/castd/castd/mqtt/PacketType;" (.ref w_CONNECT)) (S_CONNACK : Sta Z h0 "com/example/castd/castd/mqtt/PacketType" "CONNACK" "Lcom/example/castd/castd/mqtt/PacketType;" (.ref w_CONNACK)) (S_PUBLISH : Sta Z h0 "com/example/castd/castd/mqtt/PacketType" "PUBLISH" "Lcom/example/castd/castd/mqtt/PacketType;" (.ref w_PUBLISH)) (S_PUBACK : Sta Z h0 "com/example/castd/castd/mqtt/PacketType" "PUBACK" "Lcom/example/castd/castd/mqtt/PacketType;" (.ref w_PUBACK)) (S_PUBREC : Sta Z h0 "com/example/castd/castd/mqtt/PacketType" "PUBREC" "Lcom/example/castd/castd/mqtt/PacketType;" (.ref w_PUBREC)) (S_PUBREL : Sta Z h0 "com/example/castd/castd/mqtt/PacketType" "PUBREL" "Lcom/example/castd/castd/mqtt/PacketType;" (.ref w_PUBREL)) (S_PUBCOMP : Sta Z h0 "com/example/castd/castd/mqtt/PacketType" "PUBCOMP" "Lcom/example/castd/castd/mqtt/PacketType;" (.ref w_PUBCOMP)) (S_SUBSCRIBE : Sta Z h0 "com/example/castd/castd/mqtt/PacketType" "SUBSCRIBE" "Lcom/example/castd/castd/mqtt/PacketType;" (.ref w_SUBSCRIBE)) (S_SUBACK : Sta Z h0 "com/example/castd/castd/mqtt/PacketType" "SUBACK" "Lcom/example/castd/castd/mqtt/PacketType;" (.ref w_SUBACK)) (S_UNSUBSCRIBE : Sta Z h0 "com/example/castd/castd/mqtt/PacketType" "UNSUBSCRIBE" "Lcom/example/castd/castd/mqtt/PacketType;" (.ref w_UNSUBSCRIBE)) (S_UNSUBACK : Sta Z h0 "com/example/castd/castd/mqtt/PacketType" "UNSUBACK" "Lcom/example/castd/castd/mqtt/PacketType;" (.ref w_UNSUBACK)) (S_PINGREQ : Sta Z h0 "com/example/castd/castd/mqtt/PacketType" "PINGREQ" "Lcom/example/castd/castd/mqtt/PacketType;" (.ref w_PINGREQ)) (S_PINGRESP : Sta Z h0 "com/example/castd/castd/mqtt/PacketType" "PINGRESP" "Lcom/example/castd/castd/mqtt/PacketType;" (.ref w_PINGRESP)) (S_DISCONNECT : Sta Z h0 "com/example/castd/castd/mqtt/PacketType" "DISCONNECT" "Lcom/example/castd/castd/mqtt/PacketType;" (.ref w_DISCONNECT)) :
    MetFree l (⟨"com/example/castd/castd/mqtt/PacketTypeFirstBytePinLaw", "type", "(I)Lcom/example/castd/castd/mqtt/PacketType;"⟩ : MethodName) (head1 (Jvm.Cond.code (⟨"com/example/castd/castd/mqtt/PacketTypeFirstBytePinLaw", "type", "(I)Lcom/example/castd/castd/mqtt/PacketType;"⟩ : MethodName) method_3_code 1 (some (.object "com/example/castd/castd/mqtt/PacketType")) :: ws) ({ frames := 0, cells := 0, slots := 0, locals := 0 } : Room)) (fun a U => a = #[(.int p1)] ∧ Z.Warmed39 U.vm ∧ U.heap = h0) (fun _ _ _ _ _ => True) (fun _ U o U' => ∃ v L, o = .returned v ∧ own_Q1 Z p1 w_CONNECT w_CONNACK w_PUBLISH w_PUBACK w_PUBREC w_PUBREL w_PUBCOMP w_SUBSCRIBE w_SUBACK w_UNSUBSCRIBE w_UNSUBACK w_PINGREQ w_PINGRESP w_DISCONNECT h0 n0 v U'.heap L ∧ FrameEnd U o U' L ({ frames := 0, cells := 0, slots := 0, locals := 0 } : Room).cells ({ frames := 0, cells := 0, slots := 0, locals := 0 } : Room).slots) := by
  refine MetFree.of_bodySF (plainFor_of_name own_pn1) hisR ?_
  intro p e s m args below meth c s₁ Bd hml0 hP hK
  obtain ⟨rfl, hZ, hh⟩ := hP
  have hx := Bd.exec
  have hby := Bd.bytes
  have hml : c.maxLocals = 1 := hml0
  have hown : s.vm.findClass "com/example/castd/castd/mqtt/PacketTypeFirstBytePinLaw" = some m.cls := findClass_of_methodNamed Bd.named
  have hnm := (name_of_methodNamed Bd.named Bd.method).1
  have X0 : Stand p l e ({ frames := 0, cells := 0, slots := 0, locals := 0 } : Room) s m #[(.int p1)] below meth c s₁ [] 0 0 := Stand.of_body Bd
  have e0 : s₁.heap = h0 := by rw [← hh, Bd.state]; rfl
  have N0 := Fr.nil n0
  have pre0 : ∀ t, Steps p.tables e below (s₁.setTop (mkF m 0 #[.val (.int p1)] [])) t → Steps p.tables e below (s₁.setTop (entryFrame m #[(.int p1)] 1)) t := fun t k => castTop (own_ef1 m p1) k
  have k1 : ∀ t, Steps p.tables e below (s₁.setTop (mkF m 1 #[.val (.int p1)] [(.int p1)])) t → Steps p.tables e below (s₁.setTop (entryFrame m #[(.int p1)] 1)) t := by
    intro t kt
    refine pre0 t ?_
    show Steps p.tables e below (s₁.setTop (mkF m 0 #[.val (.int p1)] [])) _
    refine XS.iloadN X0.here hx rfl (hb hby own_d1_0) rfl ?_
    exact kt
  by_cases hc1 : p1 = (0 : Int32)
  ·
    obtain ⟨T2, X2, e2, st2⟩ := getS2 X0 hx hZ hown (host := "") (Or.inl (hw _ (List.mem_of_getElem? (i := 5) rfl))) Via.refl e0 S_CONNECT (g := (mkF m 68 #[.val (.int p1)] [])) rfl (hb hby own_d1_68)
    obtain ⟨fs, hr, hrun, hended, hW, hsame⟩ := X2.leave (v := some (.ref w_CONNECT)) (fun h => by rw [Bd.returns] at h; cases h)
    refine ⟨_, _, k1 _ ?_, hrun, hended, _, _, rfl, ?_, ⟨_, rfl⟩, hW, hsame.mono (by decide) (by decide)⟩
    · show Steps p.tables e below (s₁.setTop (mkF m 1 #[.val (.int p1)] [(.int p1)])) _
      refine XS.tswIn X0.here hx rfl (pc0 := 1) (pc' := 68) rfl (hb hby own_d1_1) rfl (o := 67) (by rw [hc1]; decide) (by rw [hc1]; rfl) (by decide) (by decide) ?_
      show Steps p.tables e below (s₁.setTop (mkF m 68 #[.val (.int p1)] [])) _
      refine st2 _ ?_
      show Steps p.tables e below (T2.setTop (mkF m 71 #[.val (.int p1)] [(.ref w_CONNECT)])) _
      jvm_step X2.here [X2.here.top, hx, (hb hby own_d1_71), X2.method', Bd.returns, Value.isRef, FieldType.isReference]
      first | (intro acts; rw [hr _ acts rfl rfl rfl]) | rw [hr _ _ rfl rfl rfl]
      exact Steps.refl _
    · show own_Q1 Z p1 w_CONNECT w_CONNACK w_PUBLISH w_PUBACK w_PUBREC w_PUBREL w_PUBCOMP w_SUBSCRIBE w_SUBACK w_UNSUBSCRIBE w_UNSUBACK w_PINGREQ w_PINGRESP w_DISCONNECT h0 n0 _ T2.heap _
      rw [e2]
      exact ⟨(by rw [own_f1, if_pos hc1]), N0, rfl⟩
  ·
    by_cases hc2 : p1 = (1 : Int32)
    ·
      obtain ⟨T3, X3, e3, st3⟩ := getS2 X0 hx hZ hown (host := "") (Or.inl (hw _ (List.mem_of_getElem? (i := 62) rfl))) Via.refl e0 S_CONNACK (g := (mkF m 72 #[.val (.int p1)] [])) rfl (hb hby own_d1_72)
      obtain ⟨fs, hr, hrun, hended, hW, hsame⟩ := X3.leave (v := some (.ref w_CONNACK)) (fun h => by rw [Bd.returns] at h; cases h)
      refine ⟨_, _, k1 _ ?_, hrun, hended, _, _, rfl, ?_, ⟨_, rfl⟩, hW, hsame.mono (by decide) (by decide)⟩
      · show Steps p.tables e below (s₁.setTop (mkF m 1 #[.val (.int p1)] [(.int p1)])) _
        refine XS.tswIn X0.here hx rfl (pc0 := 1) (pc' := 72) rfl (hb hby own_d1_1) rfl (o := 71) (by rw [hc2]; decide) (by rw [hc2]; rfl) (by decide) (by decide) ?_
        show Steps p.tables e below (s₁.setTop (mkF m 72 #[.val (.int p1)] [])) _
        refine st3 _ ?_
        show Steps p.tables e below (T3.setTop (mkF m 75 #[.val (.int p1)] [(.ref w_CONNACK)])) _
        jvm_step X3.here [X3.here.top, hx, (hb hby own_d1_75), X3.method', Bd.returns, Value.isRef, FieldType.isReference]
        first | (intro acts; rw [hr _ acts rfl rfl rfl]) | rw [hr _ _ rfl rfl rfl]
        exact Steps.refl _
      · show own_Q1 Z p1 w_CONNECT w_CONNACK w_PUBLISH w_PUBACK w_PUBREC w_PUBREL w_PUBCOMP w_SUBSCRIBE w_SUBACK w_UNSUBSCRIBE w_UNSUBACK w_PINGREQ w_PINGRESP w_DISCONNECT h0 n0 _ T3.heap _
        rw [e3]
        exact ⟨(by rw [own_f1, if_neg hc1, if_pos hc2]), N0, rfl⟩
    ·
      by_cases hc3 : p1 = (2 : Int32)
      ·
        obtain ⟨T4, X4, e4, st4⟩ := getS2 X0 hx hZ hown (host := "") (Or.inl (hw _ (List.mem_of_getElem? (i := 63) rfl))) Via.refl e0 S_PUBLISH (g := (mkF m 76 #[.val (.int p1)] [])) rfl (hb hby own_d1_76)
        obtain ⟨fs, hr, hrun, hended, hW, hsame⟩ := X4.leave (v := some (.ref w_PUBLISH)) (fun h => by rw [Bd.returns] at h; cases h)
        refine ⟨_, _, k1 _ ?_, hrun, hended, _, _, rfl, ?_, ⟨_, rfl⟩, hW, hsame.mono (by decide) (by decide)⟩
        · show Steps p.tables e below (s₁.setTop (mkF m 1 #[.val (.int p1)] [(.int p1)])) _
          refine XS.tswIn X0.here hx rfl (pc0 := 1) (pc' := 76) rfl (hb hby own_d1_1) rfl (o := 75) (by rw [hc3]; decide) (by rw [hc3]; rfl) (by decide) (by decide) ?_
          show Steps p.tables e below (s₁.setTop (mkF m 76 #[.val (.int p1)] [])) _
          refine st4 _ ?_
          show Steps p.tables e below (T4.setTop (mkF m 79 #[.val (.int p1)] [(.ref w_PUBLISH)])) _
          jvm_step X4.here [X4.here.top, hx, (hb hby own_d1_79), X4.method', Bd.returns, Value.isRef, FieldType.isReference]
          first | (intro acts; rw [hr _ acts rfl rfl rfl]) | rw [hr _ _ rfl rfl rfl]
          exact Steps.refl _
        · show own_Q1 Z p1 w_CONNECT w_CONNACK w_PUBLISH w_PUBACK w_PUBREC w_PUBREL w_PUBCOMP w_SUBSCRIBE w_SUBACK w_UNSUBSCRIBE w_UNSUBACK w_PINGREQ w_PINGRESP w_DISCONNECT h0 n0 _ T4.heap _
          rw [e4]
          exact ⟨(by rw [own_f1, if_neg hc1, if_neg hc2, if_pos hc3]), N0, rfl⟩
      ·
        by_cases hc4 : p1 = (3 : Int32)
        ·
          obtain ⟨T5, X5, e5, st5⟩ := getS2 X0 hx hZ hown (host := "") (Or.inl (hw _ (List.mem_of_getElem? (i := 60) rfl))) Via.refl e0 S_PUBACK (g := (mkF m 80 #[.val (.int p1)] [])) rfl (hb hby own_d1_80)
          obtain ⟨fs, hr, hrun, hended, hW, hsame⟩ := X5.leave (v := some (.ref w_PUBACK)) (fun h => by rw [Bd.returns] at h; cases h)
          refine ⟨_, _, k1 _ ?_, hrun, hended, _, _, rfl, ?_, ⟨_, rfl⟩, hW, hsame.mono (by decide) (by decide)⟩
          · show Steps p.tables e below (s₁.setTop (mkF m 1 #[.val (.int p1)] [(.int p1)])) _
            refine XS.tswIn X0.here hx rfl (pc0 := 1) (pc' := 80) rfl (hb hby own_d1_1) rfl (o := 79) (by rw [hc4]; decide) (by rw [hc4]; rfl) (by decide) (by decide) ?_
            show Steps p.tables e below (s₁.setTop (mkF m 80 #[.val (.int p1)] [])) _
            refine st5 _ ?_
            show Steps p.tables e below (T5.setTop (mkF m 83 #[.val (.int p1)] [(.ref w_PUBACK)])) _
            jvm_step X5.here [X5.here.top, hx, (hb hby own_d1_83), X5.method', Bd.returns, Value.isRef, FieldType.isReference]
            first | (intro acts; rw [hr _ acts rfl rfl rfl]) | rw [hr _ _ rfl rfl rfl]
            exact Steps.refl _
          · show own_Q1 Z p1 w_CONNECT w_CONNACK w_PUBLISH w_PUBACK w_PUBREC w_PUBREL w_PUBCOMP w_SUBSCRIBE w_SUBACK w_UNSUBSCRIBE w_UNSUBACK w_PINGREQ w_PINGRESP w_DISCONNECT h0 n0 _ T5.heap _
            rw [e5]
            exact ⟨(by rw [own_f1, if_neg hc1, if_neg hc2, if_neg hc3, if_pos hc4]), N0, rfl⟩
        ·
          by_cases hc5 : p1 = (4 : Int32)
          ·
            obtain ⟨T6, X6, e6, st6⟩ := getS2 X0 hx hZ hown (host := "") (Or.inl (hw _ (List.mem_of_getElem? (i := 55) rfl))) Via.refl e0 S_PUBREC (g := (mkF m 84 #[.val (.int p1)] [])) rfl (hb hby own_d1_84)
            obtain ⟨fs, hr, hrun, hended, hW, hsame⟩ := X6.leave (v := some (.ref w_PUBREC)) (fun h => by rw [Bd.returns] at h; cases h)
            refine ⟨_, _, k1 _ ?_, hrun, hended, _, _, rfl, ?_, ⟨_, rfl⟩, hW, hsame.mono (by decide) (by decide)⟩
            · show Steps p.tables e below (s₁.setTop (mkF m 1 #[.val (.int p1)] [(.int p1)])) _
              refine XS.tswIn X0.here hx rfl (pc0 := 1) (pc' := 84) rfl (hb hby own_d1_1) rfl (o := 83) (by rw [hc5]; decide) (by rw [hc5]; rfl) (by decide) (by decide) ?_
              show Steps p.tables e below (s₁.setTop (mkF m 84 #[.val (.int p1)] [])) _
              refine st6 _ ?_
              show Steps p.tables e below (T6.setTop (mkF m 87 #[.val (.int p1)] [(.ref w_PUBREC)])) _
              jvm_step X6.here [X6.here.top, hx, (hb hby own_d1_87), X6.method', Bd.returns, Value.isRef, FieldType.isReference]
              first | (intro acts; rw [hr _ acts rfl rfl rfl]) | rw [hr _ _ rfl rfl rfl]
              exact Steps.refl _
            · show own_Q1 Z p1 w_CONNECT w_CONNACK w_PUBLISH w_PUBACK w_PUBREC w_PUBREL w_PUBCOMP w_SUBSCRIBE w_SUBACK w_UNSUBSCRIBE w_UNSUBACK w_PINGREQ w_PINGRESP w_DISCONNECT h0 n0 _ T6.heap _
              rw [e6]
              exact ⟨(by rw [own_f1, if_neg hc1, if_neg hc2, if_neg hc3, if_neg hc4, if_pos hc5]), N0, rfl⟩
          ·
            by_cases hc6 : p1 = (5 : Int32)
            ·
              obtain ⟨T7, X7, e7, st7⟩ := getS2 X0 hx hZ hown (host := "") (Or.inl (hw _ (List.mem_of_getElem? (i := 61) rfl))) Via.refl e0 S_PUBREL (g := (mkF m 88 #[.val (.int p1)] [])) rfl (hb hby own_d1_88)
              obtain ⟨fs, hr, hrun, hended, hW, hsame⟩ := X7.leave (v := some (.ref w_PUBREL)) (fun h => by rw [Bd.returns] at h; cases h)
              refine ⟨_, _, k1 _ ?_, hrun, hended, _, _, rfl, ?_, ⟨_, rfl⟩, hW, hsame.mono (by decide) (by decide)⟩
              · show Steps p.tables e below (s₁.setTop (mkF m 1 #[.val (.int p1)] [(.int p1)])) _
                refine XS.tswIn X0.here hx rfl (pc0 := 1) (pc' := 88) rfl (hb hby own_d1_1) rfl (o := 87) (by rw [hc6]; decide) (by rw [hc6]; rfl) (by decide) (by decide) ?_
                show Steps p.tables e below (s₁.setTop (mkF m 88 #[.val (.int p1)] [])) _
                refine st7 _ ?_
                show Steps p.tables e below (T7.setTop (mkF m 91 #[.val (.int p1)] [(.ref w_PUBREL)])) _
                jvm_step X7.here [X7.here.top, hx, (hb hby own_d1_91), X7.method', Bd.returns, Value.isRef, FieldType.isReference]
                first | (intro acts; rw [hr _ acts rfl rfl rfl]) | rw [hr _ _ rfl rfl rfl]
                exact Steps.refl _
              · show own_Q1 Z p1 w_CONNECT w_CONNACK w_PUBLISH w_PUBACK w_PUBREC w_PUBREL w_PUBCOMP w_SUBSCRIBE w_SUBACK w_UNSUBSCRIBE w_UNSUBACK w_PINGREQ w_PINGRESP w_DISCONNECT h0 n0 _ T7.heap _
                rw [e7]
                exact ⟨(by rw [own_f1, if_neg hc1, if_neg hc2, if_neg hc3, if_neg hc4, if_neg hc5, if_pos hc6]), N0, rfl⟩
            ·
              by_cases hc7 : p1 = (6 : Int32)
              ·
                obtain ⟨T8, X8, e8, st8⟩ := getS2 X0 hx hZ hown (host := "") (Or.inl (hw _ (List.mem_of_getElem? (i := 57) rfl))) Via.refl e0 S_PUBCOMP (g := (mkF m 92 #[.val (.int p1)] [])) rfl (hb hby own_d1_92)
                obtain ⟨fs, hr, hrun, hended, hW, hsame⟩ := X8.leave (v := some (.ref w_PUBCOMP)) (fun h => by rw [Bd.returns] at h; cases h)
                refine ⟨_, _, k1 _ ?_, hrun, hended, _, _, rfl, ?_, ⟨_, rfl⟩, hW, hsame.mono (by decide) (by decide)⟩
                · show Steps p.tables e below (s₁.setTop (mkF m 1 #[.val (.int p1)] [(.int p1)])) _
                  refine XS.tswIn X0.here hx rfl (pc0 := 1) (pc' := 92) rfl (hb hby own_d1_1) rfl (o := 91) (by rw [hc7]; decide) (by rw [hc7]; rfl) (by decide) (by decide) ?_
                  show Steps p.tables e below (s₁.setTop (mkF m 92 #[.val (.int p1)] [])) _
                  refine st8 _ ?_
                  show Steps p.tables e below (T8.setTop (mkF m 95 #[.val (.int p1)] [(.ref w_PUBCOMP)])) _
                  jvm_step X8.here [X8.here.top, hx, (hb hby own_d1_95), X8.method', Bd.returns, Value.isRef, FieldType.isReference]
                  first | (intro acts; rw [hr _ acts rfl rfl rfl]) | rw [hr _ _ rfl rfl rfl]
                  exact Steps.refl _
                · show own_Q1 Z p1 w_CONNECT w_CONNACK w_PUBLISH w_PUBACK w_PUBREC w_PUBREL w_PUBCOMP w_SUBSCRIBE w_SUBACK w_UNSUBSCRIBE w_UNSUBACK w_PINGREQ w_PINGRESP w_DISCONNECT h0 n0 _ T8.heap _
                  rw [e8]
                  exact ⟨(by rw [own_f1, if_neg hc1, if_neg hc2, if_neg hc3, if_neg hc4, if_neg hc5, if_neg hc6, if_pos hc7]), N0, rfl⟩
              ·
                by_cases hc8 : p1 = (7 : Int32)
                ·
                  obtain ⟨T9, X9, e9, st9⟩ := getS2 X0 hx hZ hown (host := "") (Or.inl (hw _ (List.mem_of_getElem? (i := 59) rfl))) Via.refl e0 S_SUBSCRIBE (g := (mkF m 96 #[.val (.int p1)] [])) rfl (hb hby own_d1_96)
                  obtain ⟨fs, hr, hrun, hended, hW, hsame⟩ := X9.leave (v := some (.ref w_SUBSCRIBE)) (fun h => by rw [Bd.returns] at h; cases h)
                  refine ⟨_, _, k1 _ ?_, hrun, hended, _, _, rfl, ?_, ⟨_, rfl⟩, hW, hsame.mono (by decide) (by decide)⟩
                  · show Steps p.tables e below (s₁.setTop (mkF m 1 #[.val (.int p1)] [(.int p1)])) _
                    refine XS.tswIn X0.here hx rfl (pc0 := 1) (pc' := 96) rfl (hb hby own_d1_1) rfl (o := 95) (by rw [hc8]; decide) (by rw [hc8]; rfl) (by decide) (by decide) ?_
                    show Steps p.tables e below (s₁.setTop (mkF m 96 #[.val (.int p1)] [])) _
                    refine st9 _ ?_
                    show Steps p.tables e below (T9.setTop (mkF m 99 #[.val (.int p1)] [(.ref w_SUBSCRIBE)])) _
                    jvm_step X9.here [X9.here.top, hx, (hb hby own_d1_99), X9.method', Bd.returns, Value.isRef, FieldType.isReference]
                    first | (intro acts; rw [hr _ acts rfl rfl rfl]) | rw [hr _ _ rfl rfl rfl]
                    exact Steps.refl _
                  · show own_Q1 Z p1 w_CONNECT w_CONNACK w_PUBLISH w_PUBACK w_PUBREC w_PUBREL w_PUBCOMP w_SUBSCRIBE w_SUBACK w_UNSUBSCRIBE w_UNSUBACK w_PINGREQ w_PINGRESP w_DISCONNECT h0 n0 _ T9.heap _
                    rw [e9]
                    exact ⟨(by rw [own_f1, if_neg hc1, if_neg hc2, if_neg hc3, if_neg hc4, if_neg hc5, if_neg hc6, if_neg hc7, if_pos hc8]), N0, rfl⟩
                ·
                  by_cases hc9 : p1 = (8 : Int32)
                  ·
                    obtain ⟨T10, X10, e10, st10⟩ := getS2 X0 hx hZ hown (host := "") (Or.inl (hw _ (List.mem_of_getElem? (i := 54) rfl))) Via.refl e0 S_SUBACK (g := (mkF m 100 #[.val (.int p1)] [])) rfl (hb hby own_d1_100)
                    obtain ⟨fs, hr, hrun, hended, hW, hsame⟩ := X10.leave (v := some (.ref w_SUBACK)) (fun h => by rw [Bd.returns] at h; cases h)
                    refine ⟨_, _, k1 _ ?_, hrun, hended, _, _, rfl, ?_, ⟨_, rfl⟩, hW, hsame.mono (by decide) (by decide)⟩
                    · show Steps p.tables e below (s₁.setTop (mkF m 1 #[.val (.int p1)] [(.int p1)])) _
                      refine XS.tswIn X0.here hx rfl (pc0 := 1) (pc' := 100) rfl (hb hby own_d1_1) rfl (o := 99) (by rw [hc9]; decide) (by rw [hc9]; rfl) (by decide) (by decide) ?_
                      show Steps p.tables e below (s₁.setTop (mkF m 100 #[.val (.int p1)] [])) _
                      refine st10 _ ?_
                      show Steps p.tables e below (T10.setTop (mkF m 103 #[.val (.int p1)] [(.ref w_SUBACK)])) _
                      jvm_step X10.here [X10.here.top, hx, (hb hby own_d1_103), X10.method', Bd.returns, Value.isRef, FieldType.isReference]
                      first | (intro acts; rw [hr _ acts rfl rfl rfl]) | rw [hr _ _ rfl rfl rfl]
                      exact Steps.refl _
                    · show own_Q1 Z p1 w_CONNECT w_CONNACK w_PUBLISH w_PUBACK w_PUBREC w_PUBREL w_PUBCOMP w_SUBSCRIBE w_SUBACK w_UNSUBSCRIBE w_UNSUBACK w_PINGREQ w_PINGRESP w_DISCONNECT h0 n0 _ T10.heap _
                      rw [e10]
                      exact ⟨(by rw [own_f1, if_neg hc1, if_neg hc2, if_neg hc3, if_neg hc4, if_neg hc5, if_neg hc6, if_neg hc7, if_neg hc8, if_pos hc9]), N0, rfl⟩
                  ·
                    by_cases hc10 : p1 = (9 : Int32)
                    ·
                      obtain ⟨T11, X11, e11, st11⟩ := getS2 X0 hx hZ hown (host := "") (Or.inl (hw _ (List.mem_of_getElem? (i := 65) rfl))) Via.refl e0 S_UNSUBSCRIBE (g := (mkF m 104 #[.val (.int p1)] [])) rfl (hb hby own_d1_104)
                      obtain ⟨fs, hr, hrun, hended, hW, hsame⟩ := X11.leave (v := some (.ref w_UNSUBSCRIBE)) (fun h => by rw [Bd.returns] at h; cases h)
                      refine ⟨_, _, k1 _ ?_, hrun, hended, _, _, rfl, ?_, ⟨_, rfl⟩, hW, hsame.mono (by decide) (by decide)⟩
                      · show Steps p.tables e below (s₁.setTop (mkF m 1 #[.val (.int p1)] [(.int p1)])) _
                        refine XS.tswIn X0.here hx rfl (pc0 := 1) (pc' := 104) rfl (hb hby own_d1_1) rfl (o := 103) (by rw [hc10]; decide) (by rw [hc10]; rfl) (by decide) (by decide) ?_
                        show Steps p.tables e below (s₁.setTop (mkF m 104 #[.val (.int p1)] [])) _
                        refine st11 _ ?_
                        show Steps p.tables e below (T11.setTop (mkF m 107 #[.val (.int p1)] [(.ref w_UNSUBSCRIBE)])) _
                        jvm_step X11.here [X11.here.top, hx, (hb hby own_d1_107), X11.method', Bd.returns, Value.isRef, FieldType.isReference]
                        first | (intro acts; rw [hr _ acts rfl rfl rfl]) | rw [hr _ _ rfl rfl rfl]
                        exact Steps.refl _
                      · show own_Q1 Z p1 w_CONNECT w_CONNACK w_PUBLISH w_PUBACK w_PUBREC w_PUBREL w_PUBCOMP w_SUBSCRIBE w_SUBACK w_UNSUBSCRIBE w_UNSUBACK w_PINGREQ w_PINGRESP w_DISCONNECT h0 n0 _ T11.heap _
                        rw [e11]
                        exact ⟨(by rw [own_f1, if_neg hc1, if_neg hc2, if_neg hc3, if_neg hc4, if_neg hc5, if_neg hc6, if_neg hc7, if_neg hc8, if_neg hc9, if_pos hc10]), N0, rfl⟩
                    ·
                      by_cases hc11 : p1 = (10 : Int32)
                      ·
                        obtain ⟨T12, X12, e12, st12⟩ := getS2 X0 hx hZ hown (host := "") (Or.inl (hw _ (List.mem_of_getElem? (i := 53) rfl))) Via.refl e0 S_UNSUBACK (g := (mkF m 108 #[.val (.int p1)] [])) rfl (hb hby own_d1_108)
                        obtain ⟨fs, hr, hrun, hended, hW, hsame⟩ := X12.leave (v := some (.ref w_UNSUBACK)) (fun h => by rw [Bd.returns] at h; cases h)
                        refine ⟨_, _, k1 _ ?_, hrun, hended, _, _, rfl, ?_, ⟨_, rfl⟩, hW, hsame.mono (by decide) (by decide)⟩
                        · show Steps p.tables e below (s₁.setTop (mkF m 1 #[.val (.int p1)] [(.int p1)])) _
                          refine XS.tswIn X0.here hx rfl (pc0 := 1) (pc' := 108) rfl (hb hby own_d1_1) rfl (o := 107) (by rw [hc11]; decide) (by rw [hc11]; rfl) (by decide) (by decide) ?_
                          show Steps p.tables e below (s₁.setTop (mkF m 108 #[.val (.int p1)] [])) _
                          refine st12 _ ?_
                          show Steps p.tables e below (T12.setTop (mkF m 111 #[.val (.int p1)] [(.ref w_UNSUBACK)])) _
                          jvm_step X12.here [X12.here.top, hx, (hb hby own_d1_111), X12.method', Bd.returns, Value.isRef, FieldType.isReference]
                          first | (intro acts; rw [hr _ acts rfl rfl rfl]) | rw [hr _ _ rfl rfl rfl]
                          exact Steps.refl _
                        · show own_Q1 Z p1 w_CONNECT w_CONNACK w_PUBLISH w_PUBACK w_PUBREC w_PUBREL w_PUBCOMP w_SUBSCRIBE w_SUBACK w_UNSUBSCRIBE w_UNSUBACK w_PINGREQ w_PINGRESP w_DISCONNECT h0 n0 _ T12.heap _
                          rw [e12]
                          exact ⟨(by rw [own_f1, if_neg hc1, if_neg hc2, if_neg hc3, if_neg hc4, if_neg hc5, if_neg hc6, if_neg hc7, if_neg hc8, if_neg hc9, if_neg hc10, if_pos hc11]), N0, rfl⟩
                      ·
                        by_cases hc12 : p1 = (11 : Int32)
                        ·
                          obtain ⟨T13, X13, e13, st13⟩ := getS2 X0 hx hZ hown (host := "") (Or.inl (hw _ (List.mem_of_getElem? (i := 56) rfl))) Via.refl e0 S_PINGREQ (g := (mkF m 112 #[.val (.int p1)] [])) rfl (hb hby own_d1_112)
                          obtain ⟨fs, hr, hrun, hended, hW, hsame⟩ := X13.leave (v := some (.ref w_PINGREQ)) (fun h => by rw [Bd.returns] at h; cases h)
                          refine ⟨_, _, k1 _ ?_, hrun, hended, _, _, rfl, ?_, ⟨_, rfl⟩, hW, hsame.mono (by decide) (by decide)⟩
                          · show Steps p.tables e below (s₁.setTop (mkF m 1 #[.val (.int p1)] [(.int p1)])) _
                            refine XS.tswIn X0.here hx rfl (pc0 := 1) (pc' := 112) rfl (hb hby own_d1_1) rfl (o := 111) (by rw [hc12]; decide) (by rw [hc12]; rfl) (by decide) (by decide) ?_
                            show Steps p.tables e below (s₁.setTop (mkF m 112 #[.val (.int p1)] [])) _
                            refine st13 _ ?_
                            show Steps p.tables e below (T13.setTop (mkF m 115 #[.val (.int p1)] [(.ref w_PINGREQ)])) _
                            jvm_step X13.here [X13.here.top, hx, (hb hby own_d1_115), X13.method', Bd.returns, Value.isRef, FieldType.isReference]
                            first | (intro acts; rw [hr _ acts rfl rfl rfl]) | rw [hr _ _ rfl rfl rfl]
                            exact Steps.refl _
                          · show own_Q1 Z p1 w_CONNECT w_CONNACK w_PUBLISH w_PUBACK w_PUBREC w_PUBREL w_PUBCOMP w_SUBSCRIBE w_SUBACK w_UNSUBSCRIBE w_UNSUBACK w_PINGREQ w_PINGRESP w_DISCONNECT h0 n0 _ T13.heap _
                            rw [e13]
                            exact ⟨(by rw [own_f1, if_neg hc1, if_neg hc2, if_neg hc3, if_neg hc4, if_neg hc5, if_neg hc6, if_neg hc7, if_neg hc8, if_neg hc9, if_neg hc10, if_neg hc11, if_pos hc12]), N0, rfl⟩
                        ·
                          by_cases hc13 : p1 = (12 : Int32)
                          ·
                            obtain ⟨T14, X14, e14, st14⟩ := getS2 X0 hx hZ hown (host := "") (Or.inl (hw _ (List.mem_of_getElem? (i := 58) rfl))) Via.refl e0 S_PINGRESP (g := (mkF m 116 #[.val (.int p1)] [])) rfl (hb hby own_d1_116)
                            obtain ⟨fs, hr, hrun, hended, hW, hsame⟩ := X14.leave (v := some (.ref w_PINGRESP)) (fun h => by rw [Bd.returns] at h; cases h)
                            refine ⟨_, _, k1 _ ?_, hrun, hended, _, _, rfl, ?_, ⟨_, rfl⟩, hW, hsame.mono (by decide) (by decide)⟩
                            · show Steps p.tables e below (s₁.setTop (mkF m 1 #[.val (.int p1)] [(.int p1)])) _
                              refine XS.tswIn X0.here hx rfl (pc0 := 1) (pc' := 116) rfl (hb hby own_d1_1) rfl (o := 115) (by rw [hc13]; decide) (by rw [hc13]; rfl) (by decide) (by decide) ?_
                              show Steps p.tables e below (s₁.setTop (mkF m 116 #[.val (.int p1)] [])) _
                              refine st14 _ ?_
                              show Steps p.tables e below (T14.setTop (mkF m 119 #[.val (.int p1)] [(.ref w_PINGRESP)])) _
                              jvm_step X14.here [X14.here.top, hx, (hb hby own_d1_119), X14.method', Bd.returns, Value.isRef, FieldType.isReference]
                              first | (intro acts; rw [hr _ acts rfl rfl rfl]) | rw [hr _ _ rfl rfl rfl]
                              exact Steps.refl _
                            · show own_Q1 Z p1 w_CONNECT w_CONNACK w_PUBLISH w_PUBACK w_PUBREC w_PUBREL w_PUBCOMP w_SUBSCRIBE w_SUBACK w_UNSUBSCRIBE w_UNSUBACK w_PINGREQ w_PINGRESP w_DISCONNECT h0 n0 _ T14.heap _
                              rw [e14]
                              exact ⟨(by rw [own_f1, if_neg hc1, if_neg hc2, if_neg hc3, if_neg hc4, if_neg hc5, if_neg hc6, if_neg hc7, if_neg hc8, if_neg hc9, if_neg hc10, if_neg hc11, if_neg hc12, if_pos hc13]), N0, rfl⟩
                          ·
                            have hso : p1.toInt < 0 ∨ p1.toInt > 12 := own_tswOut1_1 hc1 hc2 hc3 hc4 hc5 hc6 hc7 hc8 hc9 hc10 hc11 hc12 hc13
                            obtain ⟨T15, X15, e15, st15⟩ := getS2 X0 hx hZ hown (host := "") (Or.inl (hw _ (List.mem_of_getElem? (i := 64) rfl))) Via.refl e0 S_DISCONNECT (g := (mkF m 120 #[.val (.int p1)] [])) rfl (hb hby own_d1_120)
                            obtain ⟨fs, hr, hrun, hended, hW, hsame⟩ := X15.leave (v := some (.ref w_DISCONNECT)) (fun h => by rw [Bd.returns] at h; cases h)
                            refine ⟨_, _, k1 _ ?_, hrun, hended, _, _, rfl, ?_, ⟨_, rfl⟩, hW, hsame.mono (by decide) (by decide)⟩
                            · show Steps p.tables e below (s₁.setTop (mkF m 1 #[.val (.int p1)] [(.int p1)])) _
                              refine XS.tswOut X0.here hx rfl (pc0 := 1) (pc' := 120) rfl (hb hby own_d1_1) rfl hso (by decide) (by decide) ?_
                              show Steps p.tables e below (s₁.setTop (mkF m 120 #[.val (.int p1)] [])) _
                              refine st15 _ ?_
                              show Steps p.tables e below (T15.setTop (mkF m 123 #[.val (.int p1)] [(.ref w_DISCONNECT)])) _
                              jvm_step X15.here [X15.here.top, hx, (hb hby own_d1_123), X15.method', Bd.returns, Value.isRef, FieldType.isReference]
                              first | (intro acts; rw [hr _ acts rfl rfl rfl]) | rw [hr _ _ rfl rfl rfl]
                              exact Steps.refl _
                            · show own_Q1 Z p1 w_CONNECT w_CONNACK w_PUBLISH w_PUBACK w_PUBREC w_PUBREL w_PUBCOMP w_SUBSCRIBE w_SUBACK w_UNSUBSCRIBE w_UNSUBACK w_PINGREQ w_PINGRESP w_DISCONNECT h0 n0 _ T15.heap _
                              rw [e15]
                              exact ⟨(by rw [own_f1, if_neg hc1, if_neg hc2, if_neg hc3, if_neg hc4, if_neg hc5, if_neg hc6, if_neg hc7, if_neg hc8, if_neg hc9, if_neg hc10, if_neg hc11, if_neg hc12, if_neg hc13]), N0, rfl⟩
-- body 2
theorem own_d2_0 : decode prog_85_method_6_code 0 = .ok (.aload_n 0, 1) := by decide +kernel
theorem own_d2_1 : decode prog_85_method_6_code 1 = .ok (.getfield 69, 3) := by decide +kernel
theorem own_d2_4 : decode prog_85_method_6_code 4 = .ok (.iconst (-1), 1) := by decide +kernel
theorem own_d2_5 : decode prog_85_method_6_code 5 = .ok (.if_icmp .ne 7, 3) := by decide +kernel
theorem own_d2_8 : decode prog_85_method_6_code 8 = .ok (.iload_n 1, 1) := by decide +kernel
theorem own_d2_9 : decode prog_85_method_6_code 9 = .ok (.goto 7, 3) := by decide +kernel
theorem own_d2_12 : decode prog_85_method_6_code 12 = .ok (.aload_n 0, 1) := by decide +kernel
theorem own_d2_13 : decode prog_85_method_6_code 13 = .ok (.getfield 69, 3) := by decide +kernel
theorem own_d2_16 : decode prog_85_method_6_code 16 = .ok (.istore_n 2, 1) := by decide +kernel
theorem own_d2_17 : decode prog_85_method_6_code 17 = .ok (.aload_n 0, 1) := by decide +kernel
theorem own_d2_18 : decode prog_85_method_6_code 18 = .ok (.getfield 65, 3) := by decide +kernel
theorem own_d2_21 : decode prog_85_method_6_code 21 = .ok (.iconst 4, 1) := by decide +kernel
theorem own_d2_22 : decode prog_85_method_6_code 22 = .ok (.ishl, 1) := by decide +kernel
theorem own_d2_23 : decode prog_85_method_6_code 23 = .ok (.iload_n 2, 1) := by decide +kernel
theorem own_d2_24 : decode prog_85_method_6_code 24 = .ok (.ior, 1) := by decide +kernel
theorem own_d2_25 : decode prog_85_method_6_code 25 = .ok (.ireturn, 1) := by decide +kernel
theorem own_ef2 (m : MethodId) (x0 : Addr) (x1 : Int32) : entryFrame m #[(.ref x0), (.int x1)] 3 = mkF m 0 #[.val (.ref x0), .val (.int x1), .unset] [] := by first | (simp [entryFrame, mkF, argsToLocals, Value.category]; done) | rfl
def own_f2 (p2 : Int32) (w_requiredFlags_a1 : Int32) (w_code_a1 : Int32) : Int32 := if w_requiredFlags_a1 = (-1 : Int32) then ((w_code_a1 <<< ((4 : Int32) &&& 31)) ||| p2)
    else ((w_code_a1 <<< ((4 : Int32) &&& 31)) ||| w_requiredFlags_a1)
def own_Q2 (Z : State) (a1 : Addr) (p2 : Int32) (w_requiredFlags_a1 : Int32) (w_code_a1 : Int32) (h0 : Heap) (n0 : Nat) (v : Option Value) (h : Heap) (L : List Loc) : Prop := v = some (.int (own_f2 p2 w_requiredFlags_a1 w_code_a1)) ∧ Fr n0 L ∧ h = h0
set_option maxRecDepth 65536 in
set_option maxHeartbeats 40000000 in
theorem own_rm2 (l : Launch) (Z : State) (a0 : Array Value) (hw : ∀ d ∈ tables_1, d.before a0 Z = true) (ws : List Jvm.Cond) (a1 : Addr) (p2 : Int32) (w_requiredFlags_a1 : Int32) (w_code_a1 : Int32) (h0 : Heap) (n0 : Nat) (Z0 : n0 ≤ h0.size) (F_requiredFlags_a1 : Fld Z h0 a1 "com/example/castd/castd/mqtt/PacketType" "requiredFlags" "I" (.int w_requiredFlags_a1)) (F_code_a1 : Fld Z h0 a1 "com/example/castd/castd/mqtt/PacketType" "code" "I" (.int w_code_a1)) :
    MetFree l (⟨"com/example/castd/castd/mqtt/PacketType", "firstByte", "(I)I"⟩ : MethodName) (head1 (Jvm.Cond.code (⟨"com/example/castd/castd/mqtt/PacketType", "firstByte", "(I)I"⟩ : MethodName) prog_85_method_6_code 3 (some .int) :: ws) ({ frames := 0, cells := 0, slots := 0, locals := 0 } : Room)) (fun a U => a = #[(.ref a1), (.int p2)] ∧ Z.Warmed39 U.vm ∧ U.heap = h0) (fun _ _ _ _ _ => True) (fun _ U o U' => ∃ v L, o = .returned v ∧ own_Q2 Z a1 p2 w_requiredFlags_a1 w_code_a1 h0 n0 v U'.heap L ∧ FrameEnd U o U' L ({ frames := 0, cells := 0, slots := 0, locals := 0 } : Room).cells ({ frames := 0, cells := 0, slots := 0, locals := 0 } : Room).slots) := by
  refine MetFree.of_bodySF (plainFor_of_name own_pn32) hisR ?_
  intro p e s m args below meth c s₁ Bd hml0 hP hK
  obtain ⟨rfl, hZ, hh⟩ := hP
  have hx := Bd.exec
  have hby := Bd.bytes
  have hml : c.maxLocals = 3 := hml0
  have hown : s.vm.findClass "com/example/castd/castd/mqtt/PacketType" = some m.cls := findClass_of_methodNamed Bd.named
  have hnm := (name_of_methodNamed Bd.named Bd.method).1
  have X0 : Stand p l e ({ frames := 0, cells := 0, slots := 0, locals := 0 } : Room) s m #[(.ref a1), (.int p2)] below meth c s₁ [] 0 0 := Stand.of_body Bd
  have e0 : s₁.heap = h0 := by rw [← hh, Bd.state]; rfl
  have N0 := Fr.nil n0
  have pre0 : ∀ t, Steps p.tables e below (s₁.setTop (mkF m 0 #[.val (.ref a1), .val (.int p2), .unset] [])) t → Steps p.tables e below (s₁.setTop (entryFrame m #[(.ref a1), (.int p2)] 3)) t := fun t k => castTop (own_ef2 m a1 p2) k
  obtain ⟨T1, X1, e1, st1⟩ := getF X0 hx hZ hown (host := "") (Or.inl (hw _ (List.mem_of_getElem? (i := 13) rfl))) Via.refl e0 F_requiredFlags_a1 (g := (mkF m 1 #[.val (.ref a1), .val (.int p2), .unset] [(.ref a1)])) rfl rfl (hb hby own_d2_1)
  have k2 : ∀ t, Steps p.tables e below (T1.setTop (mkF m 5 #[.val (.ref a1), .val (.int p2), .unset] [(.int (-1 : Int32)), (.int w_requiredFlags_a1)])) t → Steps p.tables e below (s₁.setTop (entryFrame m #[(.ref a1), (.int p2)] 3)) t := by
    intro t kt
    refine pre0 t ?_
    show Steps p.tables e below (s₁.setTop (mkF m 0 #[.val (.ref a1), .val (.int p2), .unset] [])) _
    refine XS.aloadN X0.here hx rfl (hb hby own_d2_0) rfl rfl ?_
    show Steps p.tables e below (s₁.setTop (mkF m 1 #[.val (.ref a1), .val (.int p2), .unset] [(.ref a1)])) _
    refine st1 _ ?_
    show Steps p.tables e below (T1.setTop (mkF m 4 #[.val (.ref a1), .val (.int p2), .unset] [(.int w_requiredFlags_a1)])) _
    refine XS.iconst X1.here hx rfl (hb hby own_d2_4) ?_
    exact kt
  by_cases hc1 : w_requiredFlags_a1 = (-1 : Int32)
  ·
    obtain ⟨T3, X3, e3, st3⟩ := getF X1 hx hZ hown (host := "") (Or.inl (hw _ (List.mem_of_getElem? (i := 15) rfl))) Via.refl e1 F_code_a1 (g := (mkF m 18 #[.val (.ref a1), .val (.int p2), .val (.int p2)] [(.ref a1)])) rfl rfl (hb hby own_d2_18)
    obtain ⟨fs, hr, hrun, hended, hW, hsame⟩ := X3.leave (v := some (.int ((w_code_a1 <<< ((4 : Int32) &&& 31)) ||| p2))) (fun h => by rw [Bd.returns] at h; cases h)
    refine ⟨_, _, k2 _ ?_, hrun, hended, _, _, rfl, ?_, ⟨_, rfl⟩, hW, hsame.mono (by decide) (by decide)⟩
    · show Steps p.tables e below (T1.setTop (mkF m 5 #[.val (.ref a1), .val (.int p2), .unset] [(.int (-1 : Int32)), (.int w_requiredFlags_a1)])) _
      refine XS.icmpNo X1.here hx rfl (hb hby own_d2_5) rfl (teq hc1).2 ?_
      show Steps p.tables e below (T1.setTop (mkF m 8 #[.val (.ref a1), .val (.int p2), .unset] [])) _
      refine XS.iloadN X1.here hx rfl (hb hby own_d2_8) rfl ?_
      show Steps p.tables e below (T1.setTop (mkF m 9 #[.val (.ref a1), .val (.int p2), .unset] [(.int p2)])) _
      refine XS.goto X1.here hx rfl (pc0 := 9) (pc' := 16) rfl (hb hby own_d2_9) (by decide) (by decide) ?_
      show Steps p.tables e below (T1.setTop (mkF m 16 #[.val (.ref a1), .val (.int p2), .unset] [(.int p2)])) _
      refine XS.istoreN X1.here hx rfl (hb hby own_d2_16) rfl (l' := #[.val (.ref a1), .val (.int p2), .val (.int p2)]) rfl ?_
      show Steps p.tables e below (T1.setTop (mkF m 17 #[.val (.ref a1), .val (.int p2), .val (.int p2)] [])) _
      refine XS.aloadN X1.here hx rfl (hb hby own_d2_17) rfl rfl ?_
      show Steps p.tables e below (T1.setTop (mkF m 18 #[.val (.ref a1), .val (.int p2), .val (.int p2)] [(.ref a1)])) _
      refine st3 _ ?_
      show Steps p.tables e below (T3.setTop (mkF m 21 #[.val (.ref a1), .val (.int p2), .val (.int p2)] [(.int w_code_a1)])) _
      refine XS.iconst X3.here hx rfl (hb hby own_d2_21) ?_
      show Steps p.tables e below (T3.setTop (mkF m 22 #[.val (.ref a1), .val (.int p2), .val (.int p2)] [(.int (4 : Int32)), (.int w_code_a1)])) _
      refine XS.ishl X3.here hx rfl (hb hby own_d2_22) rfl ?_
      show Steps p.tables e below (T3.setTop (mkF m 23 #[.val (.ref a1), .val (.int p2), .val (.int p2)] [(.int (w_code_a1 <<< ((4 : Int32) &&& 31)))])) _
      refine XS.iloadN X3.here hx rfl (hb hby own_d2_23) rfl ?_
      show Steps p.tables e below (T3.setTop (mkF m 24 #[.val (.ref a1), .val (.int p2), .val (.int p2)] [(.int p2), (.int (w_code_a1 <<< ((4 : Int32) &&& 31)))])) _
      refine XS.ior X3.here hx rfl (hb hby own_d2_24) rfl ?_
      show Steps p.tables e below (T3.setTop (mkF m 25 #[.val (.ref a1), .val (.int p2), .val (.int p2)] [(.int ((w_code_a1 <<< ((4 : Int32) &&& 31)) ||| p2))])) _
      exact retI X3 hx Bd.returns (hb hby own_d2_25) hr
    · show own_Q2 Z a1 p2 w_requiredFlags_a1 w_code_a1 h0 n0 _ T3.heap _
      rw [e3]
      exact ⟨(by rw [own_f2, if_pos hc1]), N0, rfl⟩
  ·
    obtain ⟨T4, X4, e4, st4⟩ := getF X1 hx hZ hown (host := "") (Or.inl (hw _ (List.mem_of_getElem? (i := 13) rfl))) Via.refl e1 F_requiredFlags_a1 (g := (mkF m 13 #[.val (.ref a1), .val (.int p2), .unset] [(.ref a1)])) rfl rfl (hb hby own_d2_13)
    obtain ⟨T5, X5, e5, st5⟩ := getF X4 hx hZ hown (host := "") (Or.inl (hw _ (List.mem_of_getElem? (i := 15) rfl))) Via.refl e4 F_code_a1 (g := (mkF m 18 #[.val (.ref a1), .val (.int p2), .val (.int w_requiredFlags_a1)] [(.ref a1)])) rfl rfl (hb hby own_d2_18)
    obtain ⟨fs, hr, hrun, hended, hW, hsame⟩ := X5.leave (v := some (.int ((w_code_a1 <<< ((4 : Int32) &&& 31)) ||| w_requiredFlags_a1))) (fun h => by rw [Bd.returns] at h; cases h)
    refine ⟨_, _, k2 _ ?_, hrun, hended, _, _, rfl, ?_, ⟨_, rfl⟩, hW, hsame.mono (by decide) (by decide)⟩
    · show Steps p.tables e below (T1.setTop (mkF m 5 #[.val (.ref a1), .val (.int p2), .unset] [(.int (-1 : Int32)), (.int w_requiredFlags_a1)])) _
      refine XS.icmpYes X1.here hx rfl (pc0 := 5) (pc' := 12) rfl (hb hby own_d2_5) rfl (feq hc1).2 (by decide) (by decide) ?_
      show Steps p.tables e below (T1.setTop (mkF m 12 #[.val (.ref a1), .val (.int p2), .unset] [])) _
      refine XS.aloadN X1.here hx rfl (hb hby own_d2_12) rfl rfl ?_
      show Steps p.tables e below (T1.setTop (mkF m 13 #[.val (.ref a1), .val (.int p2), .unset] [(.ref a1)])) _
      refine st4 _ ?_
      show Steps p.tables e below (T4.setTop (mkF m 16 #[.val (.ref a1), .val (.int p2), .unset] [(.int w_requiredFlags_a1)])) _
      refine XS.istoreN X4.here hx rfl (hb hby own_d2_16) rfl (l' := #[.val (.ref a1), .val (.int p2), .val (.int w_requiredFlags_a1)]) rfl ?_
      show Steps p.tables e below (T4.setTop (mkF m 17 #[.val (.ref a1), .val (.int p2), .val (.int w_requiredFlags_a1)] [])) _
      refine XS.aloadN X4.here hx rfl (hb hby own_d2_17) rfl rfl ?_
      show Steps p.tables e below (T4.setTop (mkF m 18 #[.val (.ref a1), .val (.int p2), .val (.int w_requiredFlags_a1)] [(.ref a1)])) _
      refine st5 _ ?_
      show Steps p.tables e below (T5.setTop (mkF m 21 #[.val (.ref a1), .val (.int p2), .val (.int w_requiredFlags_a1)] [(.int w_code_a1)])) _
      refine XS.iconst X5.here hx rfl (hb hby own_d2_21) ?_
      show Steps p.tables e below (T5.setTop (mkF m 22 #[.val (.ref a1), .val (.int p2), .val (.int w_requiredFlags_a1)] [(.int (4 : Int32)), (.int w_code_a1)])) _
      refine XS.ishl X5.here hx rfl (hb hby own_d2_22) rfl ?_
      show Steps p.tables e below (T5.setTop (mkF m 23 #[.val (.ref a1), .val (.int p2), .val (.int w_requiredFlags_a1)] [(.int (w_code_a1 <<< ((4 : Int32) &&& 31)))])) _
      refine XS.iloadN X5.here hx rfl (hb hby own_d2_23) rfl ?_
      show Steps p.tables e below (T5.setTop (mkF m 24 #[.val (.ref a1), .val (.int p2), .val (.int w_requiredFlags_a1)] [(.int w_requiredFlags_a1), (.int (w_code_a1 <<< ((4 : Int32) &&& 31)))])) _
      refine XS.ior X5.here hx rfl (hb hby own_d2_24) rfl ?_
      show Steps p.tables e below (T5.setTop (mkF m 25 #[.val (.ref a1), .val (.int p2), .val (.int w_requiredFlags_a1)] [(.int ((w_code_a1 <<< ((4 : Int32) &&& 31)) ||| w_requiredFlags_a1))])) _
      exact retI X5 hx Bd.returns (hb hby own_d2_25) hr
    · show own_Q2 Z a1 p2 w_requiredFlags_a1 w_code_a1 h0 n0 _ T5.heap _
      rw [e5]
      exact ⟨(by rw [own_f2, if_neg hc1]), N0, rfl⟩
-- body 3
theorem own_d3_0 : decode method_4_code 0 = .ok (.iload_n 0, 1) := by decide +kernel
theorem own_d3_1 : decode method_4_code 1 = .ok (.tableswitch 109 0 12 #[67, 70, 109, 73, 76, 79, 82, 85, 89, 93, 97, 101, 105], 67) := by decide +kernel
theorem own_d3_68 : decode method_4_code 68 = .ok (.bipush 16, 2) := by decide +kernel
theorem own_d3_70 : decode method_4_code 70 = .ok (.ireturn, 1) := by decide +kernel
theorem own_d3_71 : decode method_4_code 71 = .ok (.bipush 32, 2) := by decide +kernel
theorem own_d3_73 : decode method_4_code 73 = .ok (.ireturn, 1) := by decide +kernel
theorem own_d3_74 : decode method_4_code 74 = .ok (.bipush 64, 2) := by decide +kernel
theorem own_d3_76 : decode method_4_code 76 = .ok (.ireturn, 1) := by decide +kernel
theorem own_d3_77 : decode method_4_code 77 = .ok (.bipush 80, 2) := by decide +kernel
theorem own_d3_79 : decode method_4_code 79 = .ok (.ireturn, 1) := by decide +kernel
theorem own_d3_80 : decode method_4_code 80 = .ok (.bipush 98, 2) := by decide +kernel
theorem own_d3_82 : decode method_4_code 82 = .ok (.ireturn, 1) := by decide +kernel
theorem own_d3_83 : decode method_4_code 83 = .ok (.bipush 112, 2) := by decide +kernel
theorem own_d3_85 : decode method_4_code 85 = .ok (.ireturn, 1) := by decide +kernel
theorem own_d3_86 : decode method_4_code 86 = .ok (.sipush 130, 3) := by decide +kernel
theorem own_d3_89 : decode method_4_code 89 = .ok (.ireturn, 1) := by decide +kernel
theorem own_d3_90 : decode method_4_code 90 = .ok (.sipush 144, 3) := by decide +kernel
theorem own_d3_93 : decode method_4_code 93 = .ok (.ireturn, 1) := by decide +kernel
theorem own_d3_94 : decode method_4_code 94 = .ok (.sipush 162, 3) := by decide +kernel
theorem own_d3_97 : decode method_4_code 97 = .ok (.ireturn, 1) := by decide +kernel
theorem own_d3_98 : decode method_4_code 98 = .ok (.sipush 176, 3) := by decide +kernel
theorem own_d3_101 : decode method_4_code 101 = .ok (.ireturn, 1) := by decide +kernel
theorem own_d3_102 : decode method_4_code 102 = .ok (.sipush 192, 3) := by decide +kernel
theorem own_d3_105 : decode method_4_code 105 = .ok (.ireturn, 1) := by decide +kernel
theorem own_d3_106 : decode method_4_code 106 = .ok (.sipush 208, 3) := by decide +kernel
theorem own_d3_109 : decode method_4_code 109 = .ok (.ireturn, 1) := by decide +kernel
theorem own_d3_110 : decode method_4_code 110 = .ok (.sipush 224, 3) := by decide +kernel
theorem own_d3_113 : decode method_4_code 113 = .ok (.ireturn, 1) := by decide +kernel
theorem own_ef3 (m : MethodId) (x0 : Int32) : entryFrame m #[(.int x0)] 1 = mkF m 0 #[.val (.int x0)] [] := by first | (simp [entryFrame, mkF, argsToLocals, Value.category]; done) | rfl
def own_f3 (p1 : Int32) : Int32 := if p1 = (0 : Int32) then (16 : Int32)
    else if p1 = (1 : Int32) then (32 : Int32)
      else if p1 = (2 : Int32) then (224 : Int32)
        else if p1 = (3 : Int32) then (64 : Int32)
          else if p1 = (4 : Int32) then (80 : Int32)
            else if p1 = (5 : Int32) then (98 : Int32)
              else if p1 = (6 : Int32) then (112 : Int32)
                else if p1 = (7 : Int32) then (130 : Int32)
                  else if p1 = (8 : Int32) then (144 : Int32)
                    else if p1 = (9 : Int32) then (162 : Int32)
                      else if p1 = (10 : Int32) then (176 : Int32)
                        else if p1 = (11 : Int32) then (192 : Int32)
                          else if p1 = (12 : Int32) then (208 : Int32)
                            else (224 : Int32)
def own_Q3 (Z : State) (p1 : Int32) (h0 : Heap) (n0 : Nat) (v : Option Value) (h : Heap) (L : List Loc) : Prop := v = some (.int (own_f3 p1)) ∧ Fr n0 L ∧ h = h0
set_option maxRecDepth 65536 in
set_option maxHeartbeats 40000000 in
theorem own_rm3 (l : Launch) (Z : State) (a0 : Array Value) (hw : ∀ d ∈ tables_1, d.before a0 Z = true) (ws : List Jvm.Cond) (p1 : Int32) (h0 : Heap) (n0 : Nat) (Z0 : n0 ≤ h0.size) :
    MetFree l (⟨"com/example/castd/castd/mqtt/PacketTypeFirstBytePinLaw", "fixed", "(I)I"⟩ : MethodName) (head1 (Jvm.Cond.code (⟨"com/example/castd/castd/mqtt/PacketTypeFirstBytePinLaw", "fixed", "(I)I"⟩ : MethodName) method_4_code 1 (some .int) :: ws) ({ frames := 0, cells := 0, slots := 0, locals := 0 } : Room)) (fun a U => a = #[(.int p1)] ∧ Z.Warmed39 U.vm ∧ U.heap = h0) (fun _ _ _ _ _ => True) (fun _ U o U' => ∃ v L, o = .returned v ∧ own_Q3 Z p1 h0 n0 v U'.heap L ∧ FrameEnd U o U' L ({ frames := 0, cells := 0, slots := 0, locals := 0 } : Room).cells ({ frames := 0, cells := 0, slots := 0, locals := 0 } : Room).slots) := by
  refine MetFree.of_bodySF (plainFor_of_name own_pn1) hisR ?_
  intro p e s m args below meth c s₁ Bd hml0 hP hK
  obtain ⟨rfl, hZ, hh⟩ := hP
  have hx := Bd.exec
  have hby := Bd.bytes
  have hml : c.maxLocals = 1 := hml0
  have hown : s.vm.findClass "com/example/castd/castd/mqtt/PacketTypeFirstBytePinLaw" = some m.cls := findClass_of_methodNamed Bd.named
  have hnm := (name_of_methodNamed Bd.named Bd.method).1
  have X0 : Stand p l e ({ frames := 0, cells := 0, slots := 0, locals := 0 } : Room) s m #[(.int p1)] below meth c s₁ [] 0 0 := Stand.of_body Bd
  have e0 : s₁.heap = h0 := by rw [← hh, Bd.state]; rfl
  have N0 := Fr.nil n0
  have pre0 : ∀ t, Steps p.tables e below (s₁.setTop (mkF m 0 #[.val (.int p1)] [])) t → Steps p.tables e below (s₁.setTop (entryFrame m #[(.int p1)] 1)) t := fun t k => castTop (own_ef3 m p1) k
  have k1 : ∀ t, Steps p.tables e below (s₁.setTop (mkF m 1 #[.val (.int p1)] [(.int p1)])) t → Steps p.tables e below (s₁.setTop (entryFrame m #[(.int p1)] 1)) t := by
    intro t kt
    refine pre0 t ?_
    show Steps p.tables e below (s₁.setTop (mkF m 0 #[.val (.int p1)] [])) _
    refine XS.iloadN X0.here hx rfl (hb hby own_d3_0) rfl ?_
    exact kt
  by_cases hc1 : p1 = (0 : Int32)
  ·
    obtain ⟨fs, hr, hrun, hended, hW, hsame⟩ := X0.leave (v := some (.int (16 : Int32))) (fun h => by rw [Bd.returns] at h; cases h)
    refine ⟨_, _, k1 _ ?_, hrun, hended, _, _, rfl, ?_, ⟨_, rfl⟩, hW, hsame.mono (by decide) (by decide)⟩
    · show Steps p.tables e below (s₁.setTop (mkF m 1 #[.val (.int p1)] [(.int p1)])) _
      refine XS.tswIn X0.here hx rfl (pc0 := 1) (pc' := 68) rfl (hb hby own_d3_1) rfl (o := 67) (by rw [hc1]; decide) (by rw [hc1]; rfl) (by decide) (by decide) ?_
      show Steps p.tables e below (s₁.setTop (mkF m 68 #[.val (.int p1)] [])) _
      refine XS.bipush X0.here hx rfl (hb hby own_d3_68) ?_
      show Steps p.tables e below (s₁.setTop (mkF m 70 #[.val (.int p1)] [(.int (16 : Int32))])) _
      exact retI X0 hx Bd.returns (hb hby own_d3_70) hr
    · show own_Q3 Z p1 h0 n0 _ s₁.heap _
      rw [e0]
      exact ⟨(by rw [own_f3, if_pos hc1]), N0, rfl⟩
  ·
    by_cases hc2 : p1 = (1 : Int32)
    ·
      obtain ⟨fs, hr, hrun, hended, hW, hsame⟩ := X0.leave (v := some (.int (32 : Int32))) (fun h => by rw [Bd.returns] at h; cases h)
      refine ⟨_, _, k1 _ ?_, hrun, hended, _, _, rfl, ?_, ⟨_, rfl⟩, hW, hsame.mono (by decide) (by decide)⟩
      · show Steps p.tables e below (s₁.setTop (mkF m 1 #[.val (.int p1)] [(.int p1)])) _
        refine XS.tswIn X0.here hx rfl (pc0 := 1) (pc' := 71) rfl (hb hby own_d3_1) rfl (o := 70) (by rw [hc2]; decide) (by rw [hc2]; rfl) (by decide) (by decide) ?_
        show Steps p.tables e below (s₁.setTop (mkF m 71 #[.val (.int p1)] [])) _
        refine XS.bipush X0.here hx rfl (hb hby own_d3_71) ?_
        show Steps p.tables e below (s₁.setTop (mkF m 73 #[.val (.int p1)] [(.int (32 : Int32))])) _
        exact retI X0 hx Bd.returns (hb hby own_d3_73) hr
      · show own_Q3 Z p1 h0 n0 _ s₁.heap _
        rw [e0]
        exact ⟨(by rw [own_f3, if_neg hc1, if_pos hc2]), N0, rfl⟩
    ·
      by_cases hc3 : p1 = (2 : Int32)
      ·
        obtain ⟨fs, hr, hrun, hended, hW, hsame⟩ := X0.leave (v := some (.int (224 : Int32))) (fun h => by rw [Bd.returns] at h; cases h)
        refine ⟨_, _, k1 _ ?_, hrun, hended, _, _, rfl, ?_, ⟨_, rfl⟩, hW, hsame.mono (by decide) (by decide)⟩
        · show Steps p.tables e below (s₁.setTop (mkF m 1 #[.val (.int p1)] [(.int p1)])) _
          refine XS.tswIn X0.here hx rfl (pc0 := 1) (pc' := 110) rfl (hb hby own_d3_1) rfl (o := 109) (by rw [hc3]; decide) (by rw [hc3]; rfl) (by decide) (by decide) ?_
          show Steps p.tables e below (s₁.setTop (mkF m 110 #[.val (.int p1)] [])) _
          refine XS.sipush X0.here hx rfl (hb hby own_d3_110) ?_
          show Steps p.tables e below (s₁.setTop (mkF m 113 #[.val (.int p1)] [(.int (224 : Int32))])) _
          exact retI X0 hx Bd.returns (hb hby own_d3_113) hr
        · show own_Q3 Z p1 h0 n0 _ s₁.heap _
          rw [e0]
          exact ⟨(by rw [own_f3, if_neg hc1, if_neg hc2, if_pos hc3]), N0, rfl⟩
      ·
        by_cases hc4 : p1 = (3 : Int32)
        ·
          obtain ⟨fs, hr, hrun, hended, hW, hsame⟩ := X0.leave (v := some (.int (64 : Int32))) (fun h => by rw [Bd.returns] at h; cases h)
          refine ⟨_, _, k1 _ ?_, hrun, hended, _, _, rfl, ?_, ⟨_, rfl⟩, hW, hsame.mono (by decide) (by decide)⟩
          · show Steps p.tables e below (s₁.setTop (mkF m 1 #[.val (.int p1)] [(.int p1)])) _
            refine XS.tswIn X0.here hx rfl (pc0 := 1) (pc' := 74) rfl (hb hby own_d3_1) rfl (o := 73) (by rw [hc4]; decide) (by rw [hc4]; rfl) (by decide) (by decide) ?_
            show Steps p.tables e below (s₁.setTop (mkF m 74 #[.val (.int p1)] [])) _
            refine XS.bipush X0.here hx rfl (hb hby own_d3_74) ?_
            show Steps p.tables e below (s₁.setTop (mkF m 76 #[.val (.int p1)] [(.int (64 : Int32))])) _
            exact retI X0 hx Bd.returns (hb hby own_d3_76) hr
          · show own_Q3 Z p1 h0 n0 _ s₁.heap _
            rw [e0]
            exact ⟨(by rw [own_f3, if_neg hc1, if_neg hc2, if_neg hc3, if_pos hc4]), N0, rfl⟩
        ·
          by_cases hc5 : p1 = (4 : Int32)
          ·
            obtain ⟨fs, hr, hrun, hended, hW, hsame⟩ := X0.leave (v := some (.int (80 : Int32))) (fun h => by rw [Bd.returns] at h; cases h)
            refine ⟨_, _, k1 _ ?_, hrun, hended, _, _, rfl, ?_, ⟨_, rfl⟩, hW, hsame.mono (by decide) (by decide)⟩
            · show Steps p.tables e below (s₁.setTop (mkF m 1 #[.val (.int p1)] [(.int p1)])) _
              refine XS.tswIn X0.here hx rfl (pc0 := 1) (pc' := 77) rfl (hb hby own_d3_1) rfl (o := 76) (by rw [hc5]; decide) (by rw [hc5]; rfl) (by decide) (by decide) ?_
              show Steps p.tables e below (s₁.setTop (mkF m 77 #[.val (.int p1)] [])) _
              refine XS.bipush X0.here hx rfl (hb hby own_d3_77) ?_
              show Steps p.tables e below (s₁.setTop (mkF m 79 #[.val (.int p1)] [(.int (80 : Int32))])) _
              exact retI X0 hx Bd.returns (hb hby own_d3_79) hr
            · show own_Q3 Z p1 h0 n0 _ s₁.heap _
              rw [e0]
              exact ⟨(by rw [own_f3, if_neg hc1, if_neg hc2, if_neg hc3, if_neg hc4, if_pos hc5]), N0, rfl⟩
          ·
            by_cases hc6 : p1 = (5 : Int32)
            ·
              obtain ⟨fs, hr, hrun, hended, hW, hsame⟩ := X0.leave (v := some (.int (98 : Int32))) (fun h => by rw [Bd.returns] at h; cases h)
              refine ⟨_, _, k1 _ ?_, hrun, hended, _, _, rfl, ?_, ⟨_, rfl⟩, hW, hsame.mono (by decide) (by decide)⟩
              · show Steps p.tables e below (s₁.setTop (mkF m 1 #[.val (.int p1)] [(.int p1)])) _
                refine XS.tswIn X0.here hx rfl (pc0 := 1) (pc' := 80) rfl (hb hby own_d3_1) rfl (o := 79) (by rw [hc6]; decide) (by rw [hc6]; rfl) (by decide) (by decide) ?_
                show Steps p.tables e below (s₁.setTop (mkF m 80 #[.val (.int p1)] [])) _
                refine XS.bipush X0.here hx rfl (hb hby own_d3_80) ?_
                show Steps p.tables e below (s₁.setTop (mkF m 82 #[.val (.int p1)] [(.int (98 : Int32))])) _
                exact retI X0 hx Bd.returns (hb hby own_d3_82) hr
              · show own_Q3 Z p1 h0 n0 _ s₁.heap _
                rw [e0]
                exact ⟨(by rw [own_f3, if_neg hc1, if_neg hc2, if_neg hc3, if_neg hc4, if_neg hc5, if_pos hc6]), N0, rfl⟩
            ·
              by_cases hc7 : p1 = (6 : Int32)
              ·
                obtain ⟨fs, hr, hrun, hended, hW, hsame⟩ := X0.leave (v := some (.int (112 : Int32))) (fun h => by rw [Bd.returns] at h; cases h)
                refine ⟨_, _, k1 _ ?_, hrun, hended, _, _, rfl, ?_, ⟨_, rfl⟩, hW, hsame.mono (by decide) (by decide)⟩
                · show Steps p.tables e below (s₁.setTop (mkF m 1 #[.val (.int p1)] [(.int p1)])) _
                  refine XS.tswIn X0.here hx rfl (pc0 := 1) (pc' := 83) rfl (hb hby own_d3_1) rfl (o := 82) (by rw [hc7]; decide) (by rw [hc7]; rfl) (by decide) (by decide) ?_
                  show Steps p.tables e below (s₁.setTop (mkF m 83 #[.val (.int p1)] [])) _
                  refine XS.bipush X0.here hx rfl (hb hby own_d3_83) ?_
                  show Steps p.tables e below (s₁.setTop (mkF m 85 #[.val (.int p1)] [(.int (112 : Int32))])) _
                  exact retI X0 hx Bd.returns (hb hby own_d3_85) hr
                · show own_Q3 Z p1 h0 n0 _ s₁.heap _
                  rw [e0]
                  exact ⟨(by rw [own_f3, if_neg hc1, if_neg hc2, if_neg hc3, if_neg hc4, if_neg hc5, if_neg hc6, if_pos hc7]), N0, rfl⟩
              ·
                by_cases hc8 : p1 = (7 : Int32)
                ·
                  obtain ⟨fs, hr, hrun, hended, hW, hsame⟩ := X0.leave (v := some (.int (130 : Int32))) (fun h => by rw [Bd.returns] at h; cases h)
                  refine ⟨_, _, k1 _ ?_, hrun, hended, _, _, rfl, ?_, ⟨_, rfl⟩, hW, hsame.mono (by decide) (by decide)⟩
                  · show Steps p.tables e below (s₁.setTop (mkF m 1 #[.val (.int p1)] [(.int p1)])) _
                    refine XS.tswIn X0.here hx rfl (pc0 := 1) (pc' := 86) rfl (hb hby own_d3_1) rfl (o := 85) (by rw [hc8]; decide) (by rw [hc8]; rfl) (by decide) (by decide) ?_
                    show Steps p.tables e below (s₁.setTop (mkF m 86 #[.val (.int p1)] [])) _
                    refine XS.sipush X0.here hx rfl (hb hby own_d3_86) ?_
                    show Steps p.tables e below (s₁.setTop (mkF m 89 #[.val (.int p1)] [(.int (130 : Int32))])) _
                    exact retI X0 hx Bd.returns (hb hby own_d3_89) hr
                  · show own_Q3 Z p1 h0 n0 _ s₁.heap _
                    rw [e0]
                    exact ⟨(by rw [own_f3, if_neg hc1, if_neg hc2, if_neg hc3, if_neg hc4, if_neg hc5, if_neg hc6, if_neg hc7, if_pos hc8]), N0, rfl⟩
                ·
                  by_cases hc9 : p1 = (8 : Int32)
                  ·
                    obtain ⟨fs, hr, hrun, hended, hW, hsame⟩ := X0.leave (v := some (.int (144 : Int32))) (fun h => by rw [Bd.returns] at h; cases h)
                    refine ⟨_, _, k1 _ ?_, hrun, hended, _, _, rfl, ?_, ⟨_, rfl⟩, hW, hsame.mono (by decide) (by decide)⟩
                    · show Steps p.tables e below (s₁.setTop (mkF m 1 #[.val (.int p1)] [(.int p1)])) _
                      refine XS.tswIn X0.here hx rfl (pc0 := 1) (pc' := 90) rfl (hb hby own_d3_1) rfl (o := 89) (by rw [hc9]; decide) (by rw [hc9]; rfl) (by decide) (by decide) ?_
                      show Steps p.tables e below (s₁.setTop (mkF m 90 #[.val (.int p1)] [])) _
                      refine XS.sipush X0.here hx rfl (hb hby own_d3_90) ?_
                      show Steps p.tables e below (s₁.setTop (mkF m 93 #[.val (.int p1)] [(.int (144 : Int32))])) _
                      exact retI X0 hx Bd.returns (hb hby own_d3_93) hr
                    · show own_Q3 Z p1 h0 n0 _ s₁.heap _
                      rw [e0]
                      exact ⟨(by rw [own_f3, if_neg hc1, if_neg hc2, if_neg hc3, if_neg hc4, if_neg hc5, if_neg hc6, if_neg hc7, if_neg hc8, if_pos hc9]), N0, rfl⟩
                  ·
                    by_cases hc10 : p1 = (9 : Int32)
                    ·
                      obtain ⟨fs, hr, hrun, hended, hW, hsame⟩ := X0.leave (v := some (.int (162 : Int32))) (fun h => by rw [Bd.returns] at h; cases h)
                      refine ⟨_, _, k1 _ ?_, hrun, hended, _, _, rfl, ?_, ⟨_, rfl⟩, hW, hsame.mono (by decide) (by decide)⟩
                      · show Steps p.tables e below (s₁.setTop (mkF m 1 #[.val (.int p1)] [(.int p1)])) _
                        refine XS.tswIn X0.here hx rfl (pc0 := 1) (pc' := 94) rfl (hb hby own_d3_1) rfl (o := 93) (by rw [hc10]; decide) (by rw [hc10]; rfl) (by decide) (by decide) ?_
                        show Steps p.tables e below (s₁.setTop (mkF m 94 #[.val (.int p1)] [])) _
                        refine XS.sipush X0.here hx rfl (hb hby own_d3_94) ?_
                        show Steps p.tables e below (s₁.setTop (mkF m 97 #[.val (.int p1)] [(.int (162 : Int32))])) _
                        exact retI X0 hx Bd.returns (hb hby own_d3_97) hr
                      · show own_Q3 Z p1 h0 n0 _ s₁.heap _
                        rw [e0]
                        exact ⟨(by rw [own_f3, if_neg hc1, if_neg hc2, if_neg hc3, if_neg hc4, if_neg hc5, if_neg hc6, if_neg hc7, if_neg hc8, if_neg hc9, if_pos hc10]), N0, rfl⟩
                    ·
                      by_cases hc11 : p1 = (10 : Int32)
                      ·
                        obtain ⟨fs, hr, hrun, hended, hW, hsame⟩ := X0.leave (v := some (.int (176 : Int32))) (fun h => by rw [Bd.returns] at h; cases h)
                        refine ⟨_, _, k1 _ ?_, hrun, hended, _, _, rfl, ?_, ⟨_, rfl⟩, hW, hsame.mono (by decide) (by decide)⟩
                        · show Steps p.tables e below (s₁.setTop (mkF m 1 #[.val (.int p1)] [(.int p1)])) _
                          refine XS.tswIn X0.here hx rfl (pc0 := 1) (pc' := 98) rfl (hb hby own_d3_1) rfl (o := 97) (by rw [hc11]; decide) (by rw [hc11]; rfl) (by decide) (by decide) ?_
                          show Steps p.tables e below (s₁.setTop (mkF m 98 #[.val (.int p1)] [])) _
                          refine XS.sipush X0.here hx rfl (hb hby own_d3_98) ?_
                          show Steps p.tables e below (s₁.setTop (mkF m 101 #[.val (.int p1)] [(.int (176 : Int32))])) _
                          exact retI X0 hx Bd.returns (hb hby own_d3_101) hr
                        · show own_Q3 Z p1 h0 n0 _ s₁.heap _
                          rw [e0]
                          exact ⟨(by rw [own_f3, if_neg hc1, if_neg hc2, if_neg hc3, if_neg hc4, if_neg hc5, if_neg hc6, if_neg hc7, if_neg hc8, if_neg hc9, if_neg hc10, if_pos hc11]), N0, rfl⟩
                      ·
                        by_cases hc12 : p1 = (11 : Int32)
                        ·
                          obtain ⟨fs, hr, hrun, hended, hW, hsame⟩ := X0.leave (v := some (.int (192 : Int32))) (fun h => by rw [Bd.returns] at h; cases h)
                          refine ⟨_, _, k1 _ ?_, hrun, hended, _, _, rfl, ?_, ⟨_, rfl⟩, hW, hsame.mono (by decide) (by decide)⟩
                          · show Steps p.tables e below (s₁.setTop (mkF m 1 #[.val (.int p1)] [(.int p1)])) _
                            refine XS.tswIn X0.here hx rfl (pc0 := 1) (pc' := 102) rfl (hb hby own_d3_1) rfl (o := 101) (by rw [hc12]; decide) (by rw [hc12]; rfl) (by decide) (by decide) ?_
                            show Steps p.tables e below (s₁.setTop (mkF m 102 #[.val (.int p1)] [])) _
                            refine XS.sipush X0.here hx rfl (hb hby own_d3_102) ?_
                            show Steps p.tables e below (s₁.setTop (mkF m 105 #[.val (.int p1)] [(.int (192 : Int32))])) _
                            exact retI X0 hx Bd.returns (hb hby own_d3_105) hr
                          · show own_Q3 Z p1 h0 n0 _ s₁.heap _
                            rw [e0]
                            exact ⟨(by rw [own_f3, if_neg hc1, if_neg hc2, if_neg hc3, if_neg hc4, if_neg hc5, if_neg hc6, if_neg hc7, if_neg hc8, if_neg hc9, if_neg hc10, if_neg hc11, if_pos hc12]), N0, rfl⟩
                        ·
                          by_cases hc13 : p1 = (12 : Int32)
                          ·
                            obtain ⟨fs, hr, hrun, hended, hW, hsame⟩ := X0.leave (v := some (.int (208 : Int32))) (fun h => by rw [Bd.returns] at h; cases h)
                            refine ⟨_, _, k1 _ ?_, hrun, hended, _, _, rfl, ?_, ⟨_, rfl⟩, hW, hsame.mono (by decide) (by decide)⟩
                            · show Steps p.tables e below (s₁.setTop (mkF m 1 #[.val (.int p1)] [(.int p1)])) _
                              refine XS.tswIn X0.here hx rfl (pc0 := 1) (pc' := 106) rfl (hb hby own_d3_1) rfl (o := 105) (by rw [hc13]; decide) (by rw [hc13]; rfl) (by decide) (by decide) ?_
                              show Steps p.tables e below (s₁.setTop (mkF m 106 #[.val (.int p1)] [])) _
                              refine XS.sipush X0.here hx rfl (hb hby own_d3_106) ?_
                              show Steps p.tables e below (s₁.setTop (mkF m 109 #[.val (.int p1)] [(.int (208 : Int32))])) _
                              exact retI X0 hx Bd.returns (hb hby own_d3_109) hr
                            · show own_Q3 Z p1 h0 n0 _ s₁.heap _
                              rw [e0]
                              exact ⟨(by rw [own_f3, if_neg hc1, if_neg hc2, if_neg hc3, if_neg hc4, if_neg hc5, if_neg hc6, if_neg hc7, if_neg hc8, if_neg hc9, if_neg hc10, if_neg hc11, if_neg hc12, if_pos hc13]), N0, rfl⟩
                          ·
                            have hso : p1.toInt < 0 ∨ p1.toInt > 12 := own_tswOut3_1 hc1 hc2 hc3 hc4 hc5 hc6 hc7 hc8 hc9 hc10 hc11 hc12 hc13
                            obtain ⟨fs, hr, hrun, hended, hW, hsame⟩ := X0.leave (v := some (.int (224 : Int32))) (fun h => by rw [Bd.returns] at h; cases h)
                            refine ⟨_, _, k1 _ ?_, hrun, hended, _, _, rfl, ?_, ⟨_, rfl⟩, hW, hsame.mono (by decide) (by decide)⟩
                            · show Steps p.tables e below (s₁.setTop (mkF m 1 #[.val (.int p1)] [(.int p1)])) _
                              refine XS.tswOut X0.here hx rfl (pc0 := 1) (pc' := 110) rfl (hb hby own_d3_1) rfl hso (by decide) (by decide) ?_
                              show Steps p.tables e below (s₁.setTop (mkF m 110 #[.val (.int p1)] [])) _
                              refine XS.sipush X0.here hx rfl (hb hby own_d3_110) ?_
                              show Steps p.tables e below (s₁.setTop (mkF m 113 #[.val (.int p1)] [(.int (224 : Int32))])) _
                              exact retI X0 hx Bd.returns (hb hby own_d3_113) hr
                            · show own_Q3 Z p1 h0 n0 _ s₁.heap _
                              rw [e0]
                              exact ⟨(by rw [own_f3, if_neg hc1, if_neg hc2, if_neg hc3, if_neg hc4, if_neg hc5, if_neg hc6, if_neg hc7, if_neg hc8, if_neg hc9, if_neg hc10, if_neg hc11, if_neg hc12, if_neg hc13]), N0, rfl⟩
-- body 5
theorem own_d5_0 : decode prog_85_method_1_code 0 = .ok (.getstatic 46, 3) := by decide +kernel
theorem own_d5_3 : decode prog_85_method_1_code 3 = .ok (.invokevirtual 50, 3) := by decide +kernel
theorem own_d5_6 : decode prog_85_method_1_code 6 = .ok (.checkcast 51, 3) := by decide +kernel
theorem own_d5_9 : decode prog_85_method_1_code 9 = .ok (.areturn, 1) := by decide +kernel
theorem own_ef5 (m : MethodId)  : entryFrame m #[] 0 = mkF m 0 #[] [] := by first | (simp [entryFrame, mkF, argsToLocals, Value.category]; done) | rfl
def own_Q5 (Z : State) (k_w__VALUES : ClassId) (w_CONNECT : Addr) (w_CONNACK : Addr) (w_PUBLISH : Addr) (w_PUBACK : Addr) (w_PUBREC : Addr) (w_PUBREL : Addr) (w_PUBCOMP : Addr) (w_SUBSCRIBE : Addr) (w_SUBACK : Addr) (w_UNSUBSCRIBE : Addr) (w_UNSUBACK : Addr) (w_PINGREQ : Addr) (w_PINGRESP : Addr) (w_DISCONNECT : Addr) (w__VALUES : Addr) (h0 : Heap) (n0 : Nat) (v : Option Value) (h : Heap) (L : List Loc) : Prop := ∃ r : Addr, v = some (.ref r) ∧ Fr n0 L ∧ Keep h0 h [] ∧ h0.size ≤ r ∧ Arv Z h r k_w__VALUES (.object "com/example/castd/castd/mqtt/PacketType") (14 : Int32) [(.ref w_CONNECT), (.ref w_CONNACK), (.ref w_PUBLISH), (.ref w_PUBACK), (.ref w_PUBREC), (.ref w_PUBREL), (.ref w_PUBCOMP), (.ref w_SUBSCRIBE), (.ref w_SUBACK), (.ref w_UNSUBSCRIBE), (.ref w_UNSUBACK), (.ref w_PINGREQ), (.ref w_PINGRESP), (.ref w_DISCONNECT)] .null ∧ Exa Z h r "[Lcom/example/castd/castd/mqtt/PacketType;"
set_option maxRecDepth 65536 in
set_option maxHeartbeats 40000000 in
theorem own_rm5 (l : Launch) (Z : State) (a0 : Array Value) (hw : ∀ d ∈ tables_1, d.before a0 Z = true) (ws : List Jvm.Cond) (k_w__VALUES : ClassId) (w_CONNECT : Addr) (w_CONNACK : Addr) (w_PUBLISH : Addr) (w_PUBACK : Addr) (w_PUBREC : Addr) (w_PUBREL : Addr) (w_PUBCOMP : Addr) (w_SUBSCRIBE : Addr) (w_SUBACK : Addr) (w_UNSUBSCRIBE : Addr) (w_UNSUBACK : Addr) (w_PINGREQ : Addr) (w_PINGRESP : Addr) (w_DISCONNECT : Addr) (w__VALUES : Addr) (h0 : Heap) (n0 : Nat) (Z0 : n0 ≤ h0.size) (V_w__VALUES : Arv Z h0 w__VALUES k_w__VALUES (.object "com/example/castd/castd/mqtt/PacketType") (14 : Int32) [(.ref w_CONNECT), (.ref w_CONNACK), (.ref w_PUBLISH), (.ref w_PUBACK), (.ref w_PUBREC), (.ref w_PUBREL), (.ref w_PUBCOMP), (.ref w_SUBSCRIBE), (.ref w_SUBACK), (.ref w_UNSUBSCRIBE), (.ref w_UNSUBACK), (.ref w_PINGREQ), (.ref w_PINGRESP), (.ref w_DISCONNECT)] .null) (S__VALUES : Sta Z h0 "com/example/castd/castd/mqtt/PacketType" "$VALUES" "[Lcom/example/castd/castd/mqtt/PacketType;" (.ref w__VALUES)) (E_w__VALUES : Exa Z h0 w__VALUES "[Lcom/example/castd/castd/mqtt/PacketType;") :
    MetFree l (⟨"com/example/castd/castd/mqtt/PacketType", "values", "()[Lcom/example/castd/castd/mqtt/PacketType;"⟩ : MethodName) (head1 (Jvm.Cond.code (⟨"com/example/castd/castd/mqtt/PacketType", "values", "()[Lcom/example/castd/castd/mqtt/PacketType;"⟩ : MethodName) prog_85_method_1_code 0 (some (.array (.object "com/example/castd/castd/mqtt/PacketType"))) :: ws) ({ frames := 1, cells := 1, slots := 14, locals := 14 } : Room)) (fun a U => a = #[] ∧ Z.Warmed39 U.vm ∧ U.heap = h0) (fun _ _ _ _ _ => True) (fun _ U o U' => ∃ v L, o = .returned v ∧ own_Q5 Z k_w__VALUES w_CONNECT w_CONNACK w_PUBLISH w_PUBACK w_PUBREC w_PUBREL w_PUBCOMP w_SUBSCRIBE w_SUBACK w_UNSUBSCRIBE w_UNSUBACK w_PINGREQ w_PINGRESP w_DISCONNECT w__VALUES h0 n0 v U'.heap L ∧ FrameEnd U o U' L ({ frames := 1, cells := 1, slots := 14, locals := 14 } : Room).cells ({ frames := 1, cells := 1, slots := 14, locals := 14 } : Room).slots) := by
  refine MetFree.of_bodySF (plainFor_of_name own_pn32) hisR ?_
  intro p e s m args below meth c s₁ Bd hml0 hP hK
  obtain ⟨rfl, hZ, hh⟩ := hP
  have hx := Bd.exec
  have hby := Bd.bytes
  have hml : c.maxLocals = 0 := hml0
  have hown : s.vm.findClass "com/example/castd/castd/mqtt/PacketType" = some m.cls := findClass_of_methodNamed Bd.named
  have hnm := (name_of_methodNamed Bd.named Bd.method).1
  have X0 : Stand p l e ({ frames := 1, cells := 1, slots := 14, locals := 14 } : Room) s m #[] below meth c s₁ [] 0 0 := Stand.of_body Bd
  have e0 : s₁.heap = h0 := by rw [← hh, Bd.state]; rfl
  have N0 := Fr.nil n0
  have pre0 : ∀ t, Steps p.tables e below (s₁.setTop (mkF m 0 #[] [])) t → Steps p.tables e below (s₁.setTop (entryFrame m #[] 0)) t := fun t k => castTop (own_ef5 m ) k
  obtain ⟨T1, X1, e1, st1⟩ := getS2 X0 hx hZ hown (host := "") (Or.inl (hw _ (List.mem_of_getElem? (i := 29) rfl))) Via.refl e0 S__VALUES (g := (mkF m 0 #[] [])) rfl (hb hby own_d5_0)
  obtain ⟨T2, h2, X2, e2, E2, V2, A2, st2⟩ := cloneH X1 hx hZ hown (hw _ (List.mem_of_getElem? (i := 31) rfl)) (hw _ (List.mem_of_getElem? (i := 32) rfl)) (hw _ (List.mem_of_getElem? (i := 36) rfl)) (hw _ (List.mem_of_getElem? (i := 34) rfl)) (hw _ (List.mem_of_getElem? (i := 35) rfl)) (hw _ (List.mem_of_getElem? (i := 37) rfl)) e1 (Arv.arh V_w__VALUES) E_w__VALUES (g := (mkF m 3 #[] [(.ref w__VALUES)])) rfl (by rw [hml]; rfl) rfl (hb hby own_d5_3) (by decide) (W := 0) (cap := 14) (by show 2 * 0 + _ ≤ _; exact Nat.le_of_eq rfl) (by decide) (by decide) (by decide) (by decide)
  obtain ⟨b2, g2⟩ : ∃ z, z = h0.size := ⟨_, rfl⟩
  rw [← g2] at V2 A2 st2
  have ne_w__VALUES_b2 : w__VALUES ≠ b2 := Nat.ne_of_lt (Nat.lt_of_lt_of_le V_w__VALUES.lt (Nat.le_of_eq g2.symm))
  have g_b2 : n0 ≤ b2 := Nat.le_trans Z0 (Nat.le_of_eq g2.symm)
  have sz_b2 : h0.size ≤ b2 := Nat.le_of_eq g2.symm
  have f3 := V_w__VALUES.ext E2
  have f4 := S__VALUES.ext E2
  have f5 := E_w__VALUES.ext E2
  have Z6 := Nat.le_trans Z0 E2.1
  have K7 : Keep h0 h2 [] := (Keep.refl h0 _).ext E2
  have V_b2 : Arv Z h2 b2 k_w__VALUES (.object "com/example/castd/castd/mqtt/PacketType") (14 : Int32) [(.ref w_CONNECT), (.ref w_CONNACK), (.ref w_PUBLISH), (.ref w_PUBACK), (.ref w_PUBREC), (.ref w_PUBREL), (.ref w_PUBCOMP), (.ref w_SUBSCRIBE), (.ref w_SUBACK), (.ref w_UNSUBSCRIBE), (.ref w_UNSUBACK), (.ref w_PINGREQ), (.ref w_PINGRESP), (.ref w_DISCONNECT)] .null := V2
  obtain ⟨T8, X8, e8, st8⟩ := castY X2 hx hZ hown (hw _ (List.mem_of_getElem? (i := 51) rfl)) e2 (Ins.self A2) (g := (mkF m 6 #[] [(.ref b2)])) rfl rfl (hb hby own_d5_6)
  obtain ⟨fs, hr, hrun, hended, hW, hsame⟩ := X8.leave (v := some (.ref b2)) (fun h => by rw [Bd.returns] at h; cases h)
  refine ⟨_, _, pre0 _ ?_, hrun, hended, _, _, rfl, ?_, ⟨_, rfl⟩, hW, hsame.mono (by decide) (by decide)⟩
  · show Steps p.tables e below (s₁.setTop (mkF m 0 #[] [])) _
    refine st1 _ ?_
    show Steps p.tables e below (T1.setTop (mkF m 3 #[] [(.ref w__VALUES)])) _
    refine st2 _ ?_
    show Steps p.tables e below (T2.setTop (mkF m 6 #[] [(.ref b2)])) _
    refine st8 _ ?_
    show Steps p.tables e below (T8.setTop (mkF m 9 #[] [(.ref b2)])) _
    jvm_step X8.here [X8.here.top, hx, (hb hby own_d5_9), X8.method', Bd.returns, Value.isRef, FieldType.isReference]
    first | (intro acts; rw [hr _ acts rfl rfl rfl]) | rw [hr _ _ rfl rfl rfl]
    exact Steps.refl _
  · show own_Q5 Z k_w__VALUES w_CONNECT w_CONNACK w_PUBLISH w_PUBACK w_PUBREC w_PUBREL w_PUBCOMP w_SUBSCRIBE w_SUBACK w_UNSUBSCRIBE w_UNSUBACK w_PINGREQ w_PINGRESP w_DISCONNECT w__VALUES h0 n0 _ T8.heap _
    rw [e8]
    exact ⟨b2, rfl, N0, K7, sz_b2, V_b2, A2⟩
-- body 4, variant 16
theorem own_d4_0 : decode prog_85_method_4_code 0 = .ok (.iload_n 0, 1) := by decide +kernel
theorem own_d4_1 : decode prog_85_method_4_code 1 = .ok (.iconst 4, 1) := by decide +kernel
theorem own_d4_2 : decode prog_85_method_4_code 2 = .ok (.ishr, 1) := by decide +kernel
theorem own_d4_3 : decode prog_85_method_4_code 3 = .ok (.bipush 15, 2) := by decide +kernel
theorem own_d4_5 : decode prog_85_method_4_code 5 = .ok (.iand, 1) := by decide +kernel
theorem own_d4_6 : decode prog_85_method_4_code 6 = .ok (.istore_n 1, 1) := by decide +kernel
theorem own_d4_7 : decode prog_85_method_4_code 7 = .ok (.iload_n 1, 1) := by decide +kernel
theorem own_d4_8 : decode prog_85_method_4_code 8 = .ok (.getstatic 3, 3) := by decide +kernel
theorem own_d4_11 : decode prog_85_method_4_code 11 = .ok (.getfield 65, 3) := by decide +kernel
theorem own_d4_14 : decode prog_85_method_4_code 14 = .ok (.if_icmp .lt 13, 3) := by decide +kernel
theorem own_d4_17 : decode prog_85_method_4_code 17 = .ok (.iload_n 1, 1) := by decide +kernel
theorem own_d4_18 : decode prog_85_method_4_code 18 = .ok (.getstatic 43, 3) := by decide +kernel
theorem own_d4_21 : decode prog_85_method_4_code 21 = .ok (.getfield 65, 3) := by decide +kernel
theorem own_d4_24 : decode prog_85_method_4_code 24 = .ok (.if_icmp .le 17, 3) := by decide +kernel
theorem own_d4_41 : decode prog_85_method_4_code 41 = .ok (.invokestatic 81, 3) := by decide +kernel
theorem own_d4_44 : decode prog_85_method_4_code 44 = .ok (.iload_n 1, 1) := by decide +kernel
theorem own_d4_45 : decode prog_85_method_4_code 45 = .ok (.getstatic 3, 3) := by decide +kernel
theorem own_d4_48 : decode prog_85_method_4_code 48 = .ok (.getfield 65, 3) := by decide +kernel
theorem own_d4_51 : decode prog_85_method_4_code 51 = .ok (.isub, 1) := by decide +kernel
theorem own_d4_52 : decode prog_85_method_4_code 52 = .ok (.aaload, 1) := by decide +kernel
theorem own_d4_53 : decode prog_85_method_4_code 53 = .ok (.astore_n 2, 1) := by decide +kernel
theorem own_d4_54 : decode prog_85_method_4_code 54 = .ok (.iload_n 0, 1) := by decide +kernel
theorem own_d4_55 : decode prog_85_method_4_code 55 = .ok (.bipush 15, 2) := by decide +kernel
theorem own_d4_57 : decode prog_85_method_4_code 57 = .ok (.iand, 1) := by decide +kernel
theorem own_d4_58 : decode prog_85_method_4_code 58 = .ok (.istore_n 3, 1) := by decide +kernel
theorem own_d4_59 : decode prog_85_method_4_code 59 = .ok (.aload_n 2, 1) := by decide +kernel
theorem own_d4_60 : decode prog_85_method_4_code 60 = .ok (.getfield 69, 3) := by decide +kernel
theorem own_d4_63 : decode prog_85_method_4_code 63 = .ok (.iconst (-1), 1) := by decide +kernel
theorem own_d4_64 : decode prog_85_method_4_code 64 = .ok (.if_icmp .eq 33, 3) := by decide +kernel
theorem own_d4_67 : decode prog_85_method_4_code 67 = .ok (.iload_n 3, 1) := by decide +kernel
theorem own_d4_68 : decode prog_85_method_4_code 68 = .ok (.aload_n 2, 1) := by decide +kernel
theorem own_d4_69 : decode prog_85_method_4_code 69 = .ok (.getfield 69, 3) := by decide +kernel
theorem own_d4_72 : decode prog_85_method_4_code 72 = .ok (.if_icmp .eq 25, 3) := by decide +kernel
theorem own_d4_97 : decode prog_85_method_4_code 97 = .ok (.aload_n 2, 1) := by decide +kernel
theorem own_d4_98 : decode prog_85_method_4_code 98 = .ok (.areturn, 1) := by decide +kernel
theorem own_v16_ef4 (m : MethodId)  : entryFrame m #[(.int (16 : Int32))] 4 = mkF m 0 #[.val (.int (16 : Int32)), .unset, .unset, .unset] [] := by first | (simp [entryFrame, mkF, argsToLocals, Value.category]; done) | rfl
def own_v16_f4 (w_CONNECT : Addr) : Addr := w_CONNECT
def own_v16_Q4 (Z : State) (w_CONNECT : Addr) (w_DISCONNECT : Addr) (k_w__VALUES : ClassId) (w_CONNACK : Addr) (w_PUBLISH : Addr) (w_PUBACK : Addr) (w_PUBREC : Addr) (w_PUBREL : Addr) (w_PUBCOMP : Addr) (w_SUBSCRIBE : Addr) (w_SUBACK : Addr) (w_UNSUBSCRIBE : Addr) (w_UNSUBACK : Addr) (w_PINGREQ : Addr) (w_PINGRESP : Addr) (w__VALUES : Addr) (h0 : Heap) (n0 : Nat) (v : Option Value) (h : Heap) (L : List Loc) : Prop := v = some (.ref (own_v16_f4 w_CONNECT)) ∧ Fr n0 L ∧ Keep h0 h []
set_option maxRecDepth 65536 in
set_option maxHeartbeats 40000000 in
theorem own_v16_rm4 (l : Launch) (Z : State) (a0 : Array Value) (hw : ∀ d ∈ tables_1, d.before a0 Z = true) (ws : List Jvm.Cond) (w_CONNECT : Addr) (w_DISCONNECT : Addr) (k_w__VALUES : ClassId) (w_CONNACK : Addr) (w_PUBLISH : Addr) (w_PUBACK : Addr) (w_PUBREC : Addr) (w_PUBREL : Addr) (w_PUBCOMP : Addr) (w_SUBSCRIBE : Addr) (w_SUBACK : Addr) (w_UNSUBSCRIBE : Addr) (w_UNSUBACK : Addr) (w_PINGREQ : Addr) (w_PINGRESP : Addr) (w__VALUES : Addr) (h0 : Heap) (n0 : Nat) (Z0 : n0 ≤ h0.size) (S_CONNECT : Sta Z h0 "com/example/castd/castd/mqtt/PacketType" "CONNECT" "Lcom/example/castd/castd/mqtt/PacketType;" (.ref w_CONNECT)) (F_code_w_CONNECT : Fld Z h0 w_CONNECT "com/example/castd/castd/mqtt/PacketType" "code" "I" (.int (1 : Int32))) (S_DISCONNECT : Sta Z h0 "com/example/castd/castd/mqtt/PacketType" "DISCONNECT" "Lcom/example/castd/castd/mqtt/PacketType;" (.ref w_DISCONNECT)) (F_code_w_DISCONNECT : Fld Z h0 w_DISCONNECT "com/example/castd/castd/mqtt/PacketType" "code" "I" (.int (14 : Int32))) (V_w__VALUES : Arv Z h0 w__VALUES k_w__VALUES (.object "com/example/castd/castd/mqtt/PacketType") (14 : Int32) [(.ref w_CONNECT), (.ref w_CONNACK), (.ref w_PUBLISH), (.ref w_PUBACK), (.ref w_PUBREC), (.ref w_PUBREL), (.ref w_PUBCOMP), (.ref w_SUBSCRIBE), (.ref w_SUBACK), (.ref w_UNSUBSCRIBE), (.ref w_UNSUBACK), (.ref w_PINGREQ), (.ref w_PINGRESP), (.ref w_DISCONNECT)] .null) (S__VALUES : Sta Z h0 "com/example/castd/castd/mqtt/PacketType" "$VALUES" "[Lcom/example/castd/castd/mqtt/PacketType;" (.ref w__VALUES)) (E_w__VALUES : Exa Z h0 w__VALUES "[Lcom/example/castd/castd/mqtt/PacketType;") (F_requiredFlags_w_CONNECT : Fld Z h0 w_CONNECT "com/example/castd/castd/mqtt/PacketType" "requiredFlags" "I" (.int (0 : Int32))) :
    MetFree l (⟨"com/example/castd/castd/mqtt/PacketType", "fromFirstByte", "(I)Lcom/example/castd/castd/mqtt/PacketType;"⟩ : MethodName) (head1 (Jvm.Cond.code (⟨"com/example/castd/castd/mqtt/PacketType", "fromFirstByte", "(I)Lcom/example/castd/castd/mqtt/PacketType;"⟩ : MethodName) prog_85_method_4_code 4 (some (.object "com/example/castd/castd/mqtt/PacketType")) :: ws) ({ frames := 2, cells := 1, slots := 14, locals := 25 } : Room)) (fun a U => a = #[(.int (16 : Int32))] ∧ Z.Warmed39 U.vm ∧ U.heap = h0) (fun _ _ _ _ _ => True) (fun _ U o U' => ∃ v L, o = .returned v ∧ own_v16_Q4 Z w_CONNECT w_DISCONNECT k_w__VALUES w_CONNACK w_PUBLISH w_PUBACK w_PUBREC w_PUBREL w_PUBCOMP w_SUBSCRIBE w_SUBACK w_UNSUBSCRIBE w_UNSUBACK w_PINGREQ w_PINGRESP w__VALUES h0 n0 v U'.heap L ∧ FrameEnd U o U' L ({ frames := 2, cells := 1, slots := 14, locals := 25 } : Room).cells ({ frames := 2, cells := 1, slots := 14, locals := 25 } : Room).slots) := by
  refine MetFree.of_bodySF (plainFor_of_name own_pn32) hisR ?_
  intro p e s m args below meth c s₁ Bd hml0 hP hK
  obtain ⟨rfl, hZ, hh⟩ := hP
  have hx := Bd.exec
  have hby := Bd.bytes
  have hml : c.maxLocals = 4 := hml0
  have hown : s.vm.findClass "com/example/castd/castd/mqtt/PacketType" = some m.cls := findClass_of_methodNamed Bd.named
  have hnm := (name_of_methodNamed Bd.named Bd.method).1
  have X0 : Stand p l e ({ frames := 2, cells := 1, slots := 14, locals := 25 } : Room) s m #[(.int (16 : Int32))] below meth c s₁ [] 0 0 := Stand.of_body Bd
  have e0 : s₁.heap = h0 := by rw [← hh, Bd.state]; rfl
  have N0 := Fr.nil n0
  have pre0 : ∀ t, Steps p.tables e below (s₁.setTop (mkF m 0 #[.val (.int (16 : Int32)), .unset, .unset, .unset] [])) t → Steps p.tables e below (s₁.setTop (entryFrame m #[(.int (16 : Int32))] 4)) t := fun t k => castTop (own_v16_ef4 m ) k
  obtain ⟨T1, X1, e1, st1⟩ := getS2 X0 hx hZ hown (host := "") (Or.inl (hw _ (List.mem_of_getElem? (i := 23) rfl))) Via.refl e0 S_CONNECT (g := (mkF m 8 #[.val (.int (16 : Int32)), .val (.int (1 : Int32)), .unset, .unset] [(.int (1 : Int32))])) rfl (hb hby own_d4_8)
  obtain ⟨T2, X2, e2, st2⟩ := getF X1 hx hZ hown (host := "") (Or.inl (hw _ (List.mem_of_getElem? (i := 15) rfl))) Via.refl e1 F_code_w_CONNECT (g := (mkF m 11 #[.val (.int (16 : Int32)), .val (.int (1 : Int32)), .unset, .unset] [(.ref w_CONNECT), (.int (1 : Int32))])) rfl rfl (hb hby own_d4_11)
  obtain ⟨T3, X3, e3, st3⟩ := getS2 X2 hx hZ hown (host := "") (Or.inl (hw _ (List.mem_of_getElem? (i := 24) rfl))) Via.refl e2 S_DISCONNECT (g := (mkF m 18 #[.val (.int (16 : Int32)), .val (.int (1 : Int32)), .unset, .unset] [(.int (1 : Int32))])) rfl (hb hby own_d4_18)
  obtain ⟨T4, X4, e4, st4⟩ := getF X3 hx hZ hown (host := "") (Or.inl (hw _ (List.mem_of_getElem? (i := 15) rfl))) Via.refl e3 F_code_w_DISCONNECT (g := (mkF m 21 #[.val (.int (16 : Int32)), .val (.int (1 : Int32)), .unset, .unset] [(.ref w_DISCONNECT), (.int (1 : Int32))])) rfl rfl (hb hby own_d4_21)
  obtain ⟨v5, _, ⟨T5, L5, k5, n5⟩, -, X5, ⟨Lc5, hQ5, l5, y5, z5⟩, st5⟩ := Jvm.LawKit.callS X4 hx (y := (⟨"com/example/castd/castd/mqtt/PacketType", "values", "()[Lcom/example/castd/castd/mqtt/PacketType;"⟩ : MethodName)) hown (mvT hZ (hw _ (List.mem_of_getElem? (i := 26) rfl))) (mvT hZ (hw _ (List.mem_of_getElem? (i := 27) rfl))) (mvT hZ (hw _ (List.mem_of_getElem? (i := 6) rfl))) (mvT hZ (hw _ (List.mem_of_getElem? (i := 28) rfl))) (by decide) (backOf (W := 0) (own_rm5 l Z a0 hw [] k_w__VALUES w_CONNECT w_CONNACK w_PUBLISH w_PUBACK w_PUBREC w_PUBREL w_PUBCOMP w_SUBSCRIBE w_SUBACK w_UNSUBSCRIBE w_UNSUBACK w_PINGREQ w_PINGRESP w_DISCONNECT w__VALUES h0 n0 Z0 V_w__VALUES S__VALUES E_w__VALUES) hZ (hw _ (List.mem_of_getElem? (i := 28) rfl)) (hw _ (List.mem_of_getElem? (i := 6) rfl)) (by decide) (by decide)) (g := (mkF m 41 #[.val (.int (16 : Int32)), .val (.int (1 : Int32)), .unset, .unset] [])) rfl (by rw [hml]; rfl) (argsL := []) (rest := []) (lenOf own_pd82 rfl) rfl (by show 2 * 0 + _ ≤ _; exact Nat.le_of_eq rfl) (hb hby own_d4_41) (fun _ _ => ⟨rfl, e4, (by decide : 0 + 1 ≤ _), (by decide : 0 + 14 ≤ _)⟩)
  dsimp only [Pt.U, Pt.locs, Pt.cells, Pt.slots] at X5 l5 y5 z5 st5 hQ5
  subst l5 y5 z5
  obtain ⟨r5, rfl, N5q, K5, hr5, Q5_0, Q5_1⟩ := hQ5
  have ne_w_CONNECT_r5 : w_CONNECT ≠ r5 := Nat.ne_of_lt (Nat.lt_of_lt_of_le F_code_w_CONNECT.lt hr5)
  have ne_w_DISCONNECT_r5 : w_DISCONNECT ≠ r5 := Nat.ne_of_lt (Nat.lt_of_lt_of_le F_code_w_DISCONNECT.lt hr5)
  have ne_w__VALUES_r5 : w__VALUES ≠ r5 := Nat.ne_of_lt (Nat.lt_of_lt_of_le V_w__VALUES.lt hr5)
  have g_r5 : n0 ≤ r5 := Nat.le_trans Z0 hr5
  have sz_r5 : h0.size ≤ r5 := hr5
  have f6 := own_staKeep S_CONNECT K5
  have f7 := F_code_w_CONNECT.keep K5 nin0
  have f8 := own_staKeep S_DISCONNECT K5
  have f9 := F_code_w_DISCONNECT.keep K5 nin0
  have f10 := V_w__VALUES.keep K5 nin0
  have f11 := own_staKeep S__VALUES K5
  have f12 := E_w__VALUES.keep K5
  have f13 := F_requiredFlags_w_CONNECT.keep K5 nin0
  have Z14 := Nat.le_trans Z0 K5.1
  have K15 : Keep h0 T5.heap [] := Keep.trans (Keep.refl h0 _) K5 all0
  have N16 := Fr.app N0 N5q
  obtain ⟨T17, X17, e17, st17⟩ := getS2 X5 hx hZ hown (host := "") (Or.inl (hw _ (List.mem_of_getElem? (i := 23) rfl))) Via.refl rfl f6 (g := (mkF m 45 #[.val (.int (16 : Int32)), .val (.int (1 : Int32)), .unset, .unset] [(.int (1 : Int32)), (.ref r5)])) rfl (hb hby own_d4_45)
  obtain ⟨T18, X18, e18, st18⟩ := getF X17 hx hZ hown (host := "") (Or.inl (hw _ (List.mem_of_getElem? (i := 15) rfl))) Via.refl e17 f7 (g := (mkF m 48 #[.val (.int (16 : Int32)), .val (.int (1 : Int32)), .unset, .unset] [(.ref w_CONNECT), (.int (1 : Int32)), (.ref r5)])) rfl rfl (hb hby own_d4_48)
  obtain ⟨cl19, Ar19, qk19, Sz19, Nn19, Hs19, Gf19⟩ := id Q5_0
  have hin19 : ¬ ((0 : Int32) < 0 ∨ cl19.slots.size ≤ ((0 : Int32)).toNatClampNeg) := inb_of Sz19 ⟨by decide, by decide⟩
  have hat19 : cl19.slots[((0 : Int32)).toNatClampNeg]? = some (.ref w_CONNECT) := Has.at Hs19 hin19 rfl
  obtain ⟨T20, X20, e20, st20⟩ := getF X18 hx hZ hown (host := "") (Or.inl (hw _ (List.mem_of_getElem? (i := 13) rfl))) Via.refl e18 f13 (g := (mkF m 60 #[.val (.int (16 : Int32)), .val (.int (1 : Int32)), .val (.ref w_CONNECT), .val (.int (0 : Int32))] [(.ref w_CONNECT)])) rfl rfl (hb hby own_d4_60)
  obtain ⟨T21, X21, e21, st21⟩ := getF X20 hx hZ hown (host := "") (Or.inl (hw _ (List.mem_of_getElem? (i := 13) rfl))) Via.refl e20 f13 (g := (mkF m 69 #[.val (.int (16 : Int32)), .val (.int (1 : Int32)), .val (.ref w_CONNECT), .val (.int (0 : Int32))] [(.ref w_CONNECT), (.int (0 : Int32))])) rfl rfl (hb hby own_d4_69)
  obtain ⟨fs, hr, hrun, hended, hW, hsame⟩ := X21.leave (v := some (.ref w_CONNECT)) (fun h => by rw [Bd.returns] at h; cases h)
  refine ⟨_, _, pre0 _ ?_, hrun, hended, _, _, rfl, ?_, ⟨_, rfl⟩, hW, hsame.mono (by decide) (by decide)⟩
  · show Steps p.tables e below (s₁.setTop (mkF m 0 #[.val (.int (16 : Int32)), .unset, .unset, .unset] [])) _
    refine XS.iloadN X0.here hx rfl (hb hby own_d4_0) rfl ?_
    show Steps p.tables e below (s₁.setTop (mkF m 1 #[.val (.int (16 : Int32)), .unset, .unset, .unset] [(.int (16 : Int32))])) _
    refine XS.iconst X0.here hx rfl (hb hby own_d4_1) ?_
    show Steps p.tables e below (s₁.setTop (mkF m 2 #[.val (.int (16 : Int32)), .unset, .unset, .unset] [(.int (4 : Int32)), (.int (16 : Int32))])) _
    refine XS.ishr X0.here hx rfl (hb hby own_d4_2) rfl ?_
    show Steps p.tables e below (s₁.setTop (mkF m 3 #[.val (.int (16 : Int32)), .unset, .unset, .unset] [(.int (1 : Int32))])) _
    refine XS.bipush X0.here hx rfl (hb hby own_d4_3) ?_
    show Steps p.tables e below (s₁.setTop (mkF m 5 #[.val (.int (16 : Int32)), .unset, .unset, .unset] [(.int (15 : Int32)), (.int (1 : Int32))])) _
    refine XS.iand X0.here hx rfl (hb hby own_d4_5) rfl ?_
    show Steps p.tables e below (s₁.setTop (mkF m 6 #[.val (.int (16 : Int32)), .unset, .unset, .unset] [(.int (1 : Int32))])) _
    refine XS.istoreN X0.here hx rfl (hb hby own_d4_6) rfl (l' := #[.val (.int (16 : Int32)), .val (.int (1 : Int32)), .unset, .unset]) rfl ?_
    show Steps p.tables e below (s₁.setTop (mkF m 7 #[.val (.int (16 : Int32)), .val (.int (1 : Int32)), .unset, .unset] [])) _
    refine XS.iloadN X0.here hx rfl (hb hby own_d4_7) rfl ?_
    show Steps p.tables e below (s₁.setTop (mkF m 8 #[.val (.int (16 : Int32)), .val (.int (1 : Int32)), .unset, .unset] [(.int (1 : Int32))])) _
    refine st1 _ ?_
    show Steps p.tables e below (T1.setTop (mkF m 11 #[.val (.int (16 : Int32)), .val (.int (1 : Int32)), .unset, .unset] [(.ref w_CONNECT), (.int (1 : Int32))])) _
    refine st2 _ ?_
    show Steps p.tables e below (T2.setTop (mkF m 14 #[.val (.int (16 : Int32)), .val (.int (1 : Int32)), .unset, .unset] [(.int (1 : Int32)), (.int (1 : Int32))])) _
    refine XS.icmpNo X2.here hx rfl (hb hby own_d4_14) rfl (flt (by decide : ¬ ((1 : Int32) < (1 : Int32)))).1 ?_
    show Steps p.tables e below (T2.setTop (mkF m 17 #[.val (.int (16 : Int32)), .val (.int (1 : Int32)), .unset, .unset] [])) _
    refine XS.iloadN X2.here hx rfl (hb hby own_d4_17) rfl ?_
    show Steps p.tables e below (T2.setTop (mkF m 18 #[.val (.int (16 : Int32)), .val (.int (1 : Int32)), .unset, .unset] [(.int (1 : Int32))])) _
    refine st3 _ ?_
    show Steps p.tables e below (T3.setTop (mkF m 21 #[.val (.int (16 : Int32)), .val (.int (1 : Int32)), .unset, .unset] [(.ref w_DISCONNECT), (.int (1 : Int32))])) _
    refine st4 _ ?_
    show Steps p.tables e below (T4.setTop (mkF m 24 #[.val (.int (16 : Int32)), .val (.int (1 : Int32)), .unset, .unset] [(.int (14 : Int32)), (.int (1 : Int32))])) _
    refine XS.icmpYes X4.here hx rfl (pc0 := 24) (pc' := 41) rfl (hb hby own_d4_24) rfl (flt (by decide : ¬ ((14 : Int32) < (1 : Int32)))).2.2.2 (by decide) (by decide) ?_
    show Steps p.tables e below (T4.setTop (mkF m 41 #[.val (.int (16 : Int32)), .val (.int (1 : Int32)), .unset, .unset] [])) _
    refine st5 _ ?_
    show Steps p.tables e below (T5.setTop (mkF m 44 #[.val (.int (16 : Int32)), .val (.int (1 : Int32)), .unset, .unset] [(.ref r5)])) _
    refine XS.iloadN X5.here hx rfl (hb hby own_d4_44) rfl ?_
    show Steps p.tables e below (T5.setTop (mkF m 45 #[.val (.int (16 : Int32)), .val (.int (1 : Int32)), .unset, .unset] [(.int (1 : Int32)), (.ref r5)])) _
    refine st17 _ ?_
    show Steps p.tables e below (T17.setTop (mkF m 48 #[.val (.int (16 : Int32)), .val (.int (1 : Int32)), .unset, .unset] [(.ref w_CONNECT), (.int (1 : Int32)), (.ref r5)])) _
    refine st18 _ ?_
    show Steps p.tables e below (T18.setTop (mkF m 51 #[.val (.int (16 : Int32)), .val (.int (1 : Int32)), .unset, .unset] [(.int (1 : Int32)), (.int (1 : Int32)), (.ref r5)])) _
    refine XS.isub X18.here hx rfl (hb hby own_d4_51) rfl ?_
    show Steps p.tables e below (T18.setTop (mkF m 52 #[.val (.int (16 : Int32)), .val (.int (1 : Int32)), .unset, .unset] [(.int (0 : Int32)), (.ref r5)])) _
    refine X18.aaload hx (j := (0 : Int32)) (v := (.ref w_CONNECT)) (by rw [e18]; exact Ar19.1) (State.isArrayOf_alike hZ.alike Ar19.2.1) rfl Ar19.2.2 hin19 hat19 (g := (mkF m 52 #[.val (.int (16 : Int32)), .val (.int (1 : Int32)), .unset, .unset] [(.int (0 : Int32)), (.ref r5)])) rfl rfl (hb hby own_d4_52) _ ?_
    show Steps p.tables e below (T18.setTop (mkF m 53 #[.val (.int (16 : Int32)), .val (.int (1 : Int32)), .unset, .unset] [(.ref w_CONNECT)])) _
    refine XS.astoreN X18.here hx rfl (hb hby own_d4_53) rfl rfl (l' := #[.val (.int (16 : Int32)), .val (.int (1 : Int32)), .val (.ref w_CONNECT), .unset]) rfl ?_
    show Steps p.tables e below (T18.setTop (mkF m 54 #[.val (.int (16 : Int32)), .val (.int (1 : Int32)), .val (.ref w_CONNECT), .unset] [])) _
    refine XS.iloadN X18.here hx rfl (hb hby own_d4_54) rfl ?_
    show Steps p.tables e below (T18.setTop (mkF m 55 #[.val (.int (16 : Int32)), .val (.int (1 : Int32)), .val (.ref w_CONNECT), .unset] [(.int (16 : Int32))])) _
    refine XS.bipush X18.here hx rfl (hb hby own_d4_55) ?_
    show Steps p.tables e below (T18.setTop (mkF m 57 #[.val (.int (16 : Int32)), .val (.int (1 : Int32)), .val (.ref w_CONNECT), .unset] [(.int (15 : Int32)), (.int (16 : Int32))])) _
    refine XS.iand X18.here hx rfl (hb hby own_d4_57) rfl ?_
    show Steps p.tables e below (T18.setTop (mkF m 58 #[.val (.int (16 : Int32)), .val (.int (1 : Int32)), .val (.ref w_CONNECT), .unset] [(.int (0 : Int32))])) _
    refine XS.istoreN X18.here hx rfl (hb hby own_d4_58) rfl (l' := #[.val (.int (16 : Int32)), .val (.int (1 : Int32)), .val (.ref w_CONNECT), .val (.int (0 : Int32))]) rfl ?_
    show Steps p.tables e below (T18.setTop (mkF m 59 #[.val (.int (16 : Int32)), .val (.int (1 : Int32)), .val (.ref w_CONNECT), .val (.int (0 : Int32))] [])) _
    refine XS.aloadN X18.here hx rfl (hb hby own_d4_59) rfl rfl ?_
    show Steps p.tables e below (T18.setTop (mkF m 60 #[.val (.int (16 : Int32)), .val (.int (1 : Int32)), .val (.ref w_CONNECT), .val (.int (0 : Int32))] [(.ref w_CONNECT)])) _
    refine st20 _ ?_
    show Steps p.tables e below (T20.setTop (mkF m 63 #[.val (.int (16 : Int32)), .val (.int (1 : Int32)), .val (.ref w_CONNECT), .val (.int (0 : Int32))] [(.int (0 : Int32))])) _
    refine XS.iconst X20.here hx rfl (hb hby own_d4_63) ?_
    show Steps p.tables e below (T20.setTop (mkF m 64 #[.val (.int (16 : Int32)), .val (.int (1 : Int32)), .val (.ref w_CONNECT), .val (.int (0 : Int32))] [(.int (-1 : Int32)), (.int (0 : Int32))])) _
    refine XS.icmpNo X20.here hx rfl (hb hby own_d4_64) rfl (feq (by decide : ¬ ((0 : Int32) = (-1 : Int32)))).1 ?_
    show Steps p.tables e below (T20.setTop (mkF m 67 #[.val (.int (16 : Int32)), .val (.int (1 : Int32)), .val (.ref w_CONNECT), .val (.int (0 : Int32))] [])) _
    refine XS.iloadN X20.here hx rfl (hb hby own_d4_67) rfl ?_
    show Steps p.tables e below (T20.setTop (mkF m 68 #[.val (.int (16 : Int32)), .val (.int (1 : Int32)), .val (.ref w_CONNECT), .val (.int (0 : Int32))] [(.int (0 : Int32))])) _
    refine XS.aloadN X20.here hx rfl (hb hby own_d4_68) rfl rfl ?_
    show Steps p.tables e below (T20.setTop (mkF m 69 #[.val (.int (16 : Int32)), .val (.int (1 : Int32)), .val (.ref w_CONNECT), .val (.int (0 : Int32))] [(.ref w_CONNECT), (.int (0 : Int32))])) _
    refine st21 _ ?_
    show Steps p.tables e below (T21.setTop (mkF m 72 #[.val (.int (16 : Int32)), .val (.int (1 : Int32)), .val (.ref w_CONNECT), .val (.int (0 : Int32))] [(.int (0 : Int32)), (.int (0 : Int32))])) _
    refine XS.icmpYes X21.here hx rfl (pc0 := 72) (pc' := 97) rfl (hb hby own_d4_72) rfl (teq (by decide : (0 : Int32) = (0 : Int32))).1 (by decide) (by decide) ?_
    show Steps p.tables e below (T21.setTop (mkF m 97 #[.val (.int (16 : Int32)), .val (.int (1 : Int32)), .val (.ref w_CONNECT), .val (.int (0 : Int32))] [])) _
    refine XS.aloadN X21.here hx rfl (hb hby own_d4_97) rfl rfl ?_
    show Steps p.tables e below (T21.setTop (mkF m 98 #[.val (.int (16 : Int32)), .val (.int (1 : Int32)), .val (.ref w_CONNECT), .val (.int (0 : Int32))] [(.ref w_CONNECT)])) _
    jvm_step X21.here [X21.here.top, hx, (hb hby own_d4_98), X21.method', Bd.returns, Value.isRef, FieldType.isReference]
    first | (intro acts; rw [hr _ acts rfl rfl rfl]) | rw [hr _ _ rfl rfl rfl]
    exact Steps.refl _
  · show own_v16_Q4 Z w_CONNECT w_DISCONNECT k_w__VALUES w_CONNACK w_PUBLISH w_PUBACK w_PUBREC w_PUBREL w_PUBCOMP w_SUBSCRIBE w_SUBACK w_UNSUBSCRIBE w_UNSUBACK w_PINGREQ w_PINGRESP w__VALUES h0 n0 _ T21.heap _
    rw [e21]
    exact ⟨(by rw [own_v16_f4]), N16, K15⟩
-- body 4, variant 32
theorem own_v32_ef4 (m : MethodId)  : entryFrame m #[(.int (32 : Int32))] 4 = mkF m 0 #[.val (.int (32 : Int32)), .unset, .unset, .unset] [] := by first | (simp [entryFrame, mkF, argsToLocals, Value.category]; done) | rfl
def own_v32_f4 (w_CONNACK : Addr) : Addr := w_CONNACK
def own_v32_Q4 (Z : State) (w_CONNECT : Addr) (w_DISCONNECT : Addr) (k_w__VALUES : ClassId) (w_CONNACK : Addr) (w_PUBLISH : Addr) (w_PUBACK : Addr) (w_PUBREC : Addr) (w_PUBREL : Addr) (w_PUBCOMP : Addr) (w_SUBSCRIBE : Addr) (w_SUBACK : Addr) (w_UNSUBSCRIBE : Addr) (w_UNSUBACK : Addr) (w_PINGREQ : Addr) (w_PINGRESP : Addr) (w__VALUES : Addr) (h0 : Heap) (n0 : Nat) (v : Option Value) (h : Heap) (L : List Loc) : Prop := v = some (.ref (own_v32_f4 w_CONNACK)) ∧ Fr n0 L ∧ Keep h0 h []
set_option maxRecDepth 65536 in
set_option maxHeartbeats 40000000 in
theorem own_v32_rm4 (l : Launch) (Z : State) (a0 : Array Value) (hw : ∀ d ∈ tables_1, d.before a0 Z = true) (ws : List Jvm.Cond) (w_CONNECT : Addr) (w_DISCONNECT : Addr) (k_w__VALUES : ClassId) (w_CONNACK : Addr) (w_PUBLISH : Addr) (w_PUBACK : Addr) (w_PUBREC : Addr) (w_PUBREL : Addr) (w_PUBCOMP : Addr) (w_SUBSCRIBE : Addr) (w_SUBACK : Addr) (w_UNSUBSCRIBE : Addr) (w_UNSUBACK : Addr) (w_PINGREQ : Addr) (w_PINGRESP : Addr) (w__VALUES : Addr) (h0 : Heap) (n0 : Nat) (Z0 : n0 ≤ h0.size) (S_CONNECT : Sta Z h0 "com/example/castd/castd/mqtt/PacketType" "CONNECT" "Lcom/example/castd/castd/mqtt/PacketType;" (.ref w_CONNECT)) (F_code_w_CONNECT : Fld Z h0 w_CONNECT "com/example/castd/castd/mqtt/PacketType" "code" "I" (.int (1 : Int32))) (S_DISCONNECT : Sta Z h0 "com/example/castd/castd/mqtt/PacketType" "DISCONNECT" "Lcom/example/castd/castd/mqtt/PacketType;" (.ref w_DISCONNECT)) (F_code_w_DISCONNECT : Fld Z h0 w_DISCONNECT "com/example/castd/castd/mqtt/PacketType" "code" "I" (.int (14 : Int32))) (V_w__VALUES : Arv Z h0 w__VALUES k_w__VALUES (.object "com/example/castd/castd/mqtt/PacketType") (14 : Int32) [(.ref w_CONNECT), (.ref w_CONNACK), (.ref w_PUBLISH), (.ref w_PUBACK), (.ref w_PUBREC), (.ref w_PUBREL), (.ref w_PUBCOMP), (.ref w_SUBSCRIBE), (.ref w_SUBACK), (.ref w_UNSUBSCRIBE), (.ref w_UNSUBACK), (.ref w_PINGREQ), (.ref w_PINGRESP), (.ref w_DISCONNECT)] .null) (S__VALUES : Sta Z h0 "com/example/castd/castd/mqtt/PacketType" "$VALUES" "[Lcom/example/castd/castd/mqtt/PacketType;" (.ref w__VALUES)) (E_w__VALUES : Exa Z h0 w__VALUES "[Lcom/example/castd/castd/mqtt/PacketType;") (F_requiredFlags_w_CONNACK : Fld Z h0 w_CONNACK "com/example/castd/castd/mqtt/PacketType" "requiredFlags" "I" (.int (0 : Int32))) :
    MetFree l (⟨"com/example/castd/castd/mqtt/PacketType", "fromFirstByte", "(I)Lcom/example/castd/castd/mqtt/PacketType;"⟩ : MethodName) (head1 (Jvm.Cond.code (⟨"com/example/castd/castd/mqtt/PacketType", "fromFirstByte", "(I)Lcom/example/castd/castd/mqtt/PacketType;"⟩ : MethodName) prog_85_method_4_code 4 (some (.object "com/example/castd/castd/mqtt/PacketType")) :: ws) ({ frames := 2, cells := 1, slots := 14, locals := 25 } : Room)) (fun a U => a = #[(.int (32 : Int32))] ∧ Z.Warmed39 U.vm ∧ U.heap = h0) (fun _ _ _ _ _ => True) (fun _ U o U' => ∃ v L, o = .returned v ∧ own_v32_Q4 Z w_CONNECT w_DISCONNECT k_w__VALUES w_CONNACK w_PUBLISH w_PUBACK w_PUBREC w_PUBREL w_PUBCOMP w_SUBSCRIBE w_SUBACK w_UNSUBSCRIBE w_UNSUBACK w_PINGREQ w_PINGRESP w__VALUES h0 n0 v U'.heap L ∧ FrameEnd U o U' L ({ frames := 2, cells := 1, slots := 14, locals := 25 } : Room).cells ({ frames := 2, cells := 1, slots := 14, locals := 25 } : Room).slots) := by
  refine MetFree.of_bodySF (plainFor_of_name own_pn32) hisR ?_
  intro p e s m args below meth c s₁ Bd hml0 hP hK
  obtain ⟨rfl, hZ, hh⟩ := hP
  have hx := Bd.exec
  have hby := Bd.bytes
  have hml : c.maxLocals = 4 := hml0
  have hown : s.vm.findClass "com/example/castd/castd/mqtt/PacketType" = some m.cls := findClass_of_methodNamed Bd.named
  have hnm := (name_of_methodNamed Bd.named Bd.method).1
  have X0 : Stand p l e ({ frames := 2, cells := 1, slots := 14, locals := 25 } : Room) s m #[(.int (32 : Int32))] below meth c s₁ [] 0 0 := Stand.of_body Bd
  have e0 : s₁.heap = h0 := by rw [← hh, Bd.state]; rfl
  have N0 := Fr.nil n0
  have pre0 : ∀ t, Steps p.tables e below (s₁.setTop (mkF m 0 #[.val (.int (32 : Int32)), .unset, .unset, .unset] [])) t → Steps p.tables e below (s₁.setTop (entryFrame m #[(.int (32 : Int32))] 4)) t := fun t k => castTop (own_v32_ef4 m ) k
  obtain ⟨T1, X1, e1, st1⟩ := getS2 X0 hx hZ hown (host := "") (Or.inl (hw _ (List.mem_of_getElem? (i := 23) rfl))) Via.refl e0 S_CONNECT (g := (mkF m 8 #[.val (.int (32 : Int32)), .val (.int (2 : Int32)), .unset, .unset] [(.int (2 : Int32))])) rfl (hb hby own_d4_8)
  obtain ⟨T2, X2, e2, st2⟩ := getF X1 hx hZ hown (host := "") (Or.inl (hw _ (List.mem_of_getElem? (i := 15) rfl))) Via.refl e1 F_code_w_CONNECT (g := (mkF m 11 #[.val (.int (32 : Int32)), .val (.int (2 : Int32)), .unset, .unset] [(.ref w_CONNECT), (.int (2 : Int32))])) rfl rfl (hb hby own_d4_11)
  obtain ⟨T3, X3, e3, st3⟩ := getS2 X2 hx hZ hown (host := "") (Or.inl (hw _ (List.mem_of_getElem? (i := 24) rfl))) Via.refl e2 S_DISCONNECT (g := (mkF m 18 #[.val (.int (32 : Int32)), .val (.int (2 : Int32)), .unset, .unset] [(.int (2 : Int32))])) rfl (hb hby own_d4_18)
  obtain ⟨T4, X4, e4, st4⟩ := getF X3 hx hZ hown (host := "") (Or.inl (hw _ (List.mem_of_getElem? (i := 15) rfl))) Via.refl e3 F_code_w_DISCONNECT (g := (mkF m 21 #[.val (.int (32 : Int32)), .val (.int (2 : Int32)), .unset, .unset] [(.ref w_DISCONNECT), (.int (2 : Int32))])) rfl rfl (hb hby own_d4_21)
  obtain ⟨v5, _, ⟨T5, L5, k5, n5⟩, -, X5, ⟨Lc5, hQ5, l5, y5, z5⟩, st5⟩ := Jvm.LawKit.callS X4 hx (y := (⟨"com/example/castd/castd/mqtt/PacketType", "values", "()[Lcom/example/castd/castd/mqtt/PacketType;"⟩ : MethodName)) hown (mvT hZ (hw _ (List.mem_of_getElem? (i := 26) rfl))) (mvT hZ (hw _ (List.mem_of_getElem? (i := 27) rfl))) (mvT hZ (hw _ (List.mem_of_getElem? (i := 6) rfl))) (mvT hZ (hw _ (List.mem_of_getElem? (i := 28) rfl))) (by decide) (backOf (W := 0) (own_rm5 l Z a0 hw [] k_w__VALUES w_CONNECT w_CONNACK w_PUBLISH w_PUBACK w_PUBREC w_PUBREL w_PUBCOMP w_SUBSCRIBE w_SUBACK w_UNSUBSCRIBE w_UNSUBACK w_PINGREQ w_PINGRESP w_DISCONNECT w__VALUES h0 n0 Z0 V_w__VALUES S__VALUES E_w__VALUES) hZ (hw _ (List.mem_of_getElem? (i := 28) rfl)) (hw _ (List.mem_of_getElem? (i := 6) rfl)) (by decide) (by decide)) (g := (mkF m 41 #[.val (.int (32 : Int32)), .val (.int (2 : Int32)), .unset, .unset] [])) rfl (by rw [hml]; rfl) (argsL := []) (rest := []) (lenOf own_pd82 rfl) rfl (by show 2 * 0 + _ ≤ _; exact Nat.le_of_eq rfl) (hb hby own_d4_41) (fun _ _ => ⟨rfl, e4, (by decide : 0 + 1 ≤ _), (by decide : 0 + 14 ≤ _)⟩)
  dsimp only [Pt.U, Pt.locs, Pt.cells, Pt.slots] at X5 l5 y5 z5 st5 hQ5
  subst l5 y5 z5
  obtain ⟨r5, rfl, N5q, K5, hr5, Q5_0, Q5_1⟩ := hQ5
  have ne_w_CONNECT_r5 : w_CONNECT ≠ r5 := Nat.ne_of_lt (Nat.lt_of_lt_of_le F_code_w_CONNECT.lt hr5)
  have ne_w_DISCONNECT_r5 : w_DISCONNECT ≠ r5 := Nat.ne_of_lt (Nat.lt_of_lt_of_le F_code_w_DISCONNECT.lt hr5)
  have ne_w__VALUES_r5 : w__VALUES ≠ r5 := Nat.ne_of_lt (Nat.lt_of_lt_of_le V_w__VALUES.lt hr5)
  have ne_w_CONNACK_r5 : w_CONNACK ≠ r5 := Nat.ne_of_lt (Nat.lt_of_lt_of_le F_requiredFlags_w_CONNACK.lt hr5)
  have g_r5 : n0 ≤ r5 := Nat.le_trans Z0 hr5
  have sz_r5 : h0.size ≤ r5 := hr5
  have f6 := own_staKeep S_CONNECT K5
  have f7 := F_code_w_CONNECT.keep K5 nin0
  have f8 := own_staKeep S_DISCONNECT K5
  have f9 := F_code_w_DISCONNECT.keep K5 nin0
  have f10 := V_w__VALUES.keep K5 nin0
  have f11 := own_staKeep S__VALUES K5
  have f12 := E_w__VALUES.keep K5
  have f13 := F_requiredFlags_w_CONNACK.keep K5 nin0
  have Z14 := Nat.le_trans Z0 K5.1
  have K15 : Keep h0 T5.heap [] := Keep.trans (Keep.refl h0 _) K5 all0
  have N16 := Fr.app N0 N5q
  obtain ⟨T17, X17, e17, st17⟩ := getS2 X5 hx hZ hown (host := "") (Or.inl (hw _ (List.mem_of_getElem? (i := 23) rfl))) Via.refl rfl f6 (g := (mkF m 45 #[.val (.int (32 : Int32)), .val (.int (2 : Int32)), .unset, .unset] [(.int (2 : Int32)), (.ref r5)])) rfl (hb hby own_d4_45)
  obtain ⟨T18, X18, e18, st18⟩ := getF X17 hx hZ hown (host := "") (Or.inl (hw _ (List.mem_of_getElem? (i := 15) rfl))) Via.refl e17 f7 (g := (mkF m 48 #[.val (.int (32 : Int32)), .val (.int (2 : Int32)), .unset, .unset] [(.ref w_CONNECT), (.int (2 : Int32)), (.ref r5)])) rfl rfl (hb hby own_d4_48)
  obtain ⟨cl19, Ar19, qk19, Sz19, Nn19, Hs19, Gf19⟩ := id Q5_0
  have hin19 : ¬ ((1 : Int32) < 0 ∨ cl19.slots.size ≤ ((1 : Int32)).toNatClampNeg) := inb_of Sz19 ⟨by decide, by decide⟩
  have hat19 : cl19.slots[((1 : Int32)).toNatClampNeg]? = some (.ref w_CONNACK) := Has.at Hs19 hin19 rfl
  obtain ⟨T20, X20, e20, st20⟩ := getF X18 hx hZ hown (host := "") (Or.inl (hw _ (List.mem_of_getElem? (i := 13) rfl))) Via.refl e18 f13 (g := (mkF m 60 #[.val (.int (32 : Int32)), .val (.int (2 : Int32)), .val (.ref w_CONNACK), .val (.int (0 : Int32))] [(.ref w_CONNACK)])) rfl rfl (hb hby own_d4_60)
  obtain ⟨T21, X21, e21, st21⟩ := getF X20 hx hZ hown (host := "") (Or.inl (hw _ (List.mem_of_getElem? (i := 13) rfl))) Via.refl e20 f13 (g := (mkF m 69 #[.val (.int (32 : Int32)), .val (.int (2 : Int32)), .val (.ref w_CONNACK), .val (.int (0 : Int32))] [(.ref w_CONNACK), (.int (0 : Int32))])) rfl rfl (hb hby own_d4_69)
  obtain ⟨fs, hr, hrun, hended, hW, hsame⟩ := X21.leave (v := some (.ref w_CONNACK)) (fun h => by rw [Bd.returns] at h; cases h)
  refine ⟨_, _, pre0 _ ?_, hrun, hended, _, _, rfl, ?_, ⟨_, rfl⟩, hW, hsame.mono (by decide) (by decide)⟩
  · show Steps p.tables e below (s₁.setTop (mkF m 0 #[.val (.int (32 : Int32)), .unset, .unset, .unset] [])) _
    refine XS.iloadN X0.here hx rfl (hb hby own_d4_0) rfl ?_
    show Steps p.tables e below (s₁.setTop (mkF m 1 #[.val (.int (32 : Int32)), .unset, .unset, .unset] [(.int (32 : Int32))])) _
    refine XS.iconst X0.here hx rfl (hb hby own_d4_1) ?_
    show Steps p.tables e below (s₁.setTop (mkF m 2 #[.val (.int (32 : Int32)), .unset, .unset, .unset] [(.int (4 : Int32)), (.int (32 : Int32))])) _
    refine XS.ishr X0.here hx rfl (hb hby own_d4_2) rfl ?_
    show Steps p.tables e below (s₁.setTop (mkF m 3 #[.val (.int (32 : Int32)), .unset, .unset, .unset] [(.int (2 : Int32))])) _
    refine XS.bipush X0.here hx rfl (hb hby own_d4_3) ?_
    show Steps p.tables e below (s₁.setTop (mkF m 5 #[.val (.int (32 : Int32)), .unset, .unset, .unset] [(.int (15 : Int32)), (.int (2 : Int32))])) _
    refine XS.iand X0.here hx rfl (hb hby own_d4_5) rfl ?_
    show Steps p.tables e below (s₁.setTop (mkF m 6 #[.val (.int (32 : Int32)), .unset, .unset, .unset] [(.int (2 : Int32))])) _
    refine XS.istoreN X0.here hx rfl (hb hby own_d4_6) rfl (l' := #[.val (.int (32 : Int32)), .val (.int (2 : Int32)), .unset, .unset]) rfl ?_
    show Steps p.tables e below (s₁.setTop (mkF m 7 #[.val (.int (32 : Int32)), .val (.int (2 : Int32)), .unset, .unset] [])) _
    refine XS.iloadN X0.here hx rfl (hb hby own_d4_7) rfl ?_
    show Steps p.tables e below (s₁.setTop (mkF m 8 #[.val (.int (32 : Int32)), .val (.int (2 : Int32)), .unset, .unset] [(.int (2 : Int32))])) _
    refine st1 _ ?_
    show Steps p.tables e below (T1.setTop (mkF m 11 #[.val (.int (32 : Int32)), .val (.int (2 : Int32)), .unset, .unset] [(.ref w_CONNECT), (.int (2 : Int32))])) _
    refine st2 _ ?_
    show Steps p.tables e below (T2.setTop (mkF m 14 #[.val (.int (32 : Int32)), .val (.int (2 : Int32)), .unset, .unset] [(.int (1 : Int32)), (.int (2 : Int32))])) _
    refine XS.icmpNo X2.here hx rfl (hb hby own_d4_14) rfl (flt (by decide : ¬ ((2 : Int32) < (1 : Int32)))).1 ?_
    show Steps p.tables e below (T2.setTop (mkF m 17 #[.val (.int (32 : Int32)), .val (.int (2 : Int32)), .unset, .unset] [])) _
    refine XS.iloadN X2.here hx rfl (hb hby own_d4_17) rfl ?_
    show Steps p.tables e below (T2.setTop (mkF m 18 #[.val (.int (32 : Int32)), .val (.int (2 : Int32)), .unset, .unset] [(.int (2 : Int32))])) _
    refine st3 _ ?_
    show Steps p.tables e below (T3.setTop (mkF m 21 #[.val (.int (32 : Int32)), .val (.int (2 : Int32)), .unset, .unset] [(.ref w_DISCONNECT), (.int (2 : Int32))])) _
    refine st4 _ ?_
    show Steps p.tables e below (T4.setTop (mkF m 24 #[.val (.int (32 : Int32)), .val (.int (2 : Int32)), .unset, .unset] [(.int (14 : Int32)), (.int (2 : Int32))])) _
    refine XS.icmpYes X4.here hx rfl (pc0 := 24) (pc' := 41) rfl (hb hby own_d4_24) rfl (flt (by decide : ¬ ((14 : Int32) < (2 : Int32)))).2.2.2 (by decide) (by decide) ?_
    show Steps p.tables e below (T4.setTop (mkF m 41 #[.val (.int (32 : Int32)), .val (.int (2 : Int32)), .unset, .unset] [])) _
    refine st5 _ ?_
    show Steps p.tables e below (T5.setTop (mkF m 44 #[.val (.int (32 : Int32)), .val (.int (2 : Int32)), .unset, .unset] [(.ref r5)])) _
    refine XS.iloadN X5.here hx rfl (hb hby own_d4_44) rfl ?_
    show Steps p.tables e below (T5.setTop (mkF m 45 #[.val (.int (32 : Int32)), .val (.int (2 : Int32)), .unset, .unset] [(.int (2 : Int32)), (.ref r5)])) _
    refine st17 _ ?_
    show Steps p.tables e below (T17.setTop (mkF m 48 #[.val (.int (32 : Int32)), .val (.int (2 : Int32)), .unset, .unset] [(.ref w_CONNECT), (.int (2 : Int32)), (.ref r5)])) _
    refine st18 _ ?_
    show Steps p.tables e below (T18.setTop (mkF m 51 #[.val (.int (32 : Int32)), .val (.int (2 : Int32)), .unset, .unset] [(.int (1 : Int32)), (.int (2 : Int32)), (.ref r5)])) _
    refine XS.isub X18.here hx rfl (hb hby own_d4_51) rfl ?_
    show Steps p.tables e below (T18.setTop (mkF m 52 #[.val (.int (32 : Int32)), .val (.int (2 : Int32)), .unset, .unset] [(.int (1 : Int32)), (.ref r5)])) _
    refine X18.aaload hx (j := (1 : Int32)) (v := (.ref w_CONNACK)) (by rw [e18]; exact Ar19.1) (State.isArrayOf_alike hZ.alike Ar19.2.1) rfl Ar19.2.2 hin19 hat19 (g := (mkF m 52 #[.val (.int (32 : Int32)), .val (.int (2 : Int32)), .unset, .unset] [(.int (1 : Int32)), (.ref r5)])) rfl rfl (hb hby own_d4_52) _ ?_
    show Steps p.tables e below (T18.setTop (mkF m 53 #[.val (.int (32 : Int32)), .val (.int (2 : Int32)), .unset, .unset] [(.ref w_CONNACK)])) _
    refine XS.astoreN X18.here hx rfl (hb hby own_d4_53) rfl rfl (l' := #[.val (.int (32 : Int32)), .val (.int (2 : Int32)), .val (.ref w_CONNACK), .unset]) rfl ?_
    show Steps p.tables e below (T18.setTop (mkF m 54 #[.val (.int (32 : Int32)), .val (.int (2 : Int32)), .val (.ref w_CONNACK), .unset] [])) _
    refine XS.iloadN X18.here hx rfl (hb hby own_d4_54) rfl ?_
    show Steps p.tables e below (T18.setTop (mkF m 55 #[.val (.int (32 : Int32)), .val (.int (2 : Int32)), .val (.ref w_CONNACK), .unset] [(.int (32 : Int32))])) _
    refine XS.bipush X18.here hx rfl (hb hby own_d4_55) ?_
    show Steps p.tables e below (T18.setTop (mkF m 57 #[.val (.int (32 : Int32)), .val (.int (2 : Int32)), .val (.ref w_CONNACK), .unset] [(.int (15 : Int32)), (.int (32 : Int32))])) _
    refine XS.iand X18.here hx rfl (hb hby own_d4_57) rfl ?_
    show Steps p.tables e below (T18.setTop (mkF m 58 #[.val (.int (32 : Int32)), .val (.int (2 : Int32)), .val (.ref w_CONNACK), .unset] [(.int (0 : Int32))])) _
    refine XS.istoreN X18.here hx rfl (hb hby own_d4_58) rfl (l' := #[.val (.int (32 : Int32)), .val (.int (2 : Int32)), .val (.ref w_CONNACK), .val (.int (0 : Int32))]) rfl ?_
    show Steps p.tables e below (T18.setTop (mkF m 59 #[.val (.int (32 : Int32)), .val (.int (2 : Int32)), .val (.ref w_CONNACK), .val (.int (0 : Int32))] [])) _
    refine XS.aloadN X18.here hx rfl (hb hby own_d4_59) rfl rfl ?_
    show Steps p.tables e below (T18.setTop (mkF m 60 #[.val (.int (32 : Int32)), .val (.int (2 : Int32)), .val (.ref w_CONNACK), .val (.int (0 : Int32))] [(.ref w_CONNACK)])) _
    refine st20 _ ?_
    show Steps p.tables e below (T20.setTop (mkF m 63 #[.val (.int (32 : Int32)), .val (.int (2 : Int32)), .val (.ref w_CONNACK), .val (.int (0 : Int32))] [(.int (0 : Int32))])) _
    refine XS.iconst X20.here hx rfl (hb hby own_d4_63) ?_
    show Steps p.tables e below (T20.setTop (mkF m 64 #[.val (.int (32 : Int32)), .val (.int (2 : Int32)), .val (.ref w_CONNACK), .val (.int (0 : Int32))] [(.int (-1 : Int32)), (.int (0 : Int32))])) _
    refine XS.icmpNo X20.here hx rfl (hb hby own_d4_64) rfl (feq (by decide : ¬ ((0 : Int32) = (-1 : Int32)))).1 ?_
    show Steps p.tables e below (T20.setTop (mkF m 67 #[.val (.int (32 : Int32)), .val (.int (2 : Int32)), .val (.ref w_CONNACK), .val (.int (0 : Int32))] [])) _
    refine XS.iloadN X20.here hx rfl (hb hby own_d4_67) rfl ?_
    show Steps p.tables e below (T20.setTop (mkF m 68 #[.val (.int (32 : Int32)), .val (.int (2 : Int32)), .val (.ref w_CONNACK), .val (.int (0 : Int32))] [(.int (0 : Int32))])) _
    refine XS.aloadN X20.here hx rfl (hb hby own_d4_68) rfl rfl ?_
    show Steps p.tables e below (T20.setTop (mkF m 69 #[.val (.int (32 : Int32)), .val (.int (2 : Int32)), .val (.ref w_CONNACK), .val (.int (0 : Int32))] [(.ref w_CONNACK), (.int (0 : Int32))])) _
    refine st21 _ ?_
    show Steps p.tables e below (T21.setTop (mkF m 72 #[.val (.int (32 : Int32)), .val (.int (2 : Int32)), .val (.ref w_CONNACK), .val (.int (0 : Int32))] [(.int (0 : Int32)), (.int (0 : Int32))])) _
    refine XS.icmpYes X21.here hx rfl (pc0 := 72) (pc' := 97) rfl (hb hby own_d4_72) rfl (teq (by decide : (0 : Int32) = (0 : Int32))).1 (by decide) (by decide) ?_
    show Steps p.tables e below (T21.setTop (mkF m 97 #[.val (.int (32 : Int32)), .val (.int (2 : Int32)), .val (.ref w_CONNACK), .val (.int (0 : Int32))] [])) _
    refine XS.aloadN X21.here hx rfl (hb hby own_d4_97) rfl rfl ?_
    show Steps p.tables e below (T21.setTop (mkF m 98 #[.val (.int (32 : Int32)), .val (.int (2 : Int32)), .val (.ref w_CONNACK), .val (.int (0 : Int32))] [(.ref w_CONNACK)])) _
    jvm_step X21.here [X21.here.top, hx, (hb hby own_d4_98), X21.method', Bd.returns, Value.isRef, FieldType.isReference]
    first | (intro acts; rw [hr _ acts rfl rfl rfl]) | rw [hr _ _ rfl rfl rfl]
    exact Steps.refl _
  · show own_v32_Q4 Z w_CONNECT w_DISCONNECT k_w__VALUES w_CONNACK w_PUBLISH w_PUBACK w_PUBREC w_PUBREL w_PUBCOMP w_SUBSCRIBE w_SUBACK w_UNSUBSCRIBE w_UNSUBACK w_PINGREQ w_PINGRESP w__VALUES h0 n0 _ T21.heap _
    rw [e21]
    exact ⟨(by rw [own_v32_f4]), N16, K15⟩
-- body 4, variant 64
theorem own_v64_ef4 (m : MethodId)  : entryFrame m #[(.int (64 : Int32))] 4 = mkF m 0 #[.val (.int (64 : Int32)), .unset, .unset, .unset] [] := by first | (simp [entryFrame, mkF, argsToLocals, Value.category]; done) | rfl
def own_v64_f4 (w_PUBACK : Addr) : Addr := w_PUBACK
def own_v64_Q4 (Z : State) (w_CONNECT : Addr) (w_DISCONNECT : Addr) (k_w__VALUES : ClassId) (w_CONNACK : Addr) (w_PUBLISH : Addr) (w_PUBACK : Addr) (w_PUBREC : Addr) (w_PUBREL : Addr) (w_PUBCOMP : Addr) (w_SUBSCRIBE : Addr) (w_SUBACK : Addr) (w_UNSUBSCRIBE : Addr) (w_UNSUBACK : Addr) (w_PINGREQ : Addr) (w_PINGRESP : Addr) (w__VALUES : Addr) (h0 : Heap) (n0 : Nat) (v : Option Value) (h : Heap) (L : List Loc) : Prop := v = some (.ref (own_v64_f4 w_PUBACK)) ∧ Fr n0 L ∧ Keep h0 h []
set_option maxRecDepth 65536 in
set_option maxHeartbeats 40000000 in
theorem own_v64_rm4 (l : Launch) (Z : State) (a0 : Array Value) (hw : ∀ d ∈ tables_1, d.before a0 Z = true) (ws : List Jvm.Cond) (w_CONNECT : Addr) (w_DISCONNECT : Addr) (k_w__VALUES : ClassId) (w_CONNACK : Addr) (w_PUBLISH : Addr) (w_PUBACK : Addr) (w_PUBREC : Addr) (w_PUBREL : Addr) (w_PUBCOMP : Addr) (w_SUBSCRIBE : Addr) (w_SUBACK : Addr) (w_UNSUBSCRIBE : Addr) (w_UNSUBACK : Addr) (w_PINGREQ : Addr) (w_PINGRESP : Addr) (w__VALUES : Addr) (h0 : Heap) (n0 : Nat) (Z0 : n0 ≤ h0.size) (S_CONNECT : Sta Z h0 "com/example/castd/castd/mqtt/PacketType" "CONNECT" "Lcom/example/castd/castd/mqtt/PacketType;" (.ref w_CONNECT)) (F_code_w_CONNECT : Fld Z h0 w_CONNECT "com/example/castd/castd/mqtt/PacketType" "code" "I" (.int (1 : Int32))) (S_DISCONNECT : Sta Z h0 "com/example/castd/castd/mqtt/PacketType" "DISCONNECT" "Lcom/example/castd/castd/mqtt/PacketType;" (.ref w_DISCONNECT)) (F_code_w_DISCONNECT : Fld Z h0 w_DISCONNECT "com/example/castd/castd/mqtt/PacketType" "code" "I" (.int (14 : Int32))) (V_w__VALUES : Arv Z h0 w__VALUES k_w__VALUES (.object "com/example/castd/castd/mqtt/PacketType") (14 : Int32) [(.ref w_CONNECT), (.ref w_CONNACK), (.ref w_PUBLISH), (.ref w_PUBACK), (.ref w_PUBREC), (.ref w_PUBREL), (.ref w_PUBCOMP), (.ref w_SUBSCRIBE), (.ref w_SUBACK), (.ref w_UNSUBSCRIBE), (.ref w_UNSUBACK), (.ref w_PINGREQ), (.ref w_PINGRESP), (.ref w_DISCONNECT)] .null) (S__VALUES : Sta Z h0 "com/example/castd/castd/mqtt/PacketType" "$VALUES" "[Lcom/example/castd/castd/mqtt/PacketType;" (.ref w__VALUES)) (E_w__VALUES : Exa Z h0 w__VALUES "[Lcom/example/castd/castd/mqtt/PacketType;") (F_requiredFlags_w_PUBACK : Fld Z h0 w_PUBACK "com/example/castd/castd/mqtt/PacketType" "requiredFlags" "I" (.int (0 : Int32))) :
    MetFree l (⟨"com/example/castd/castd/mqtt/PacketType", "fromFirstByte", "(I)Lcom/example/castd/castd/mqtt/PacketType;"⟩ : MethodName) (head1 (Jvm.Cond.code (⟨"com/example/castd/castd/mqtt/PacketType", "fromFirstByte", "(I)Lcom/example/castd/castd/mqtt/PacketType;"⟩ : MethodName) prog_85_method_4_code 4 (some (.object "com/example/castd/castd/mqtt/PacketType")) :: ws) ({ frames := 2, cells := 1, slots := 14, locals := 25 } : Room)) (fun a U => a = #[(.int (64 : Int32))] ∧ Z.Warmed39 U.vm ∧ U.heap = h0) (fun _ _ _ _ _ => True) (fun _ U o U' => ∃ v L, o = .returned v ∧ own_v64_Q4 Z w_CONNECT w_DISCONNECT k_w__VALUES w_CONNACK w_PUBLISH w_PUBACK w_PUBREC w_PUBREL w_PUBCOMP w_SUBSCRIBE w_SUBACK w_UNSUBSCRIBE w_UNSUBACK w_PINGREQ w_PINGRESP w__VALUES h0 n0 v U'.heap L ∧ FrameEnd U o U' L ({ frames := 2, cells := 1, slots := 14, locals := 25 } : Room).cells ({ frames := 2, cells := 1, slots := 14, locals := 25 } : Room).slots) := by
  refine MetFree.of_bodySF (plainFor_of_name own_pn32) hisR ?_
  intro p e s m args below meth c s₁ Bd hml0 hP hK
  obtain ⟨rfl, hZ, hh⟩ := hP
  have hx := Bd.exec
  have hby := Bd.bytes
  have hml : c.maxLocals = 4 := hml0
  have hown : s.vm.findClass "com/example/castd/castd/mqtt/PacketType" = some m.cls := findClass_of_methodNamed Bd.named
  have hnm := (name_of_methodNamed Bd.named Bd.method).1
  have X0 : Stand p l e ({ frames := 2, cells := 1, slots := 14, locals := 25 } : Room) s m #[(.int (64 : Int32))] below meth c s₁ [] 0 0 := Stand.of_body Bd
  have e0 : s₁.heap = h0 := by rw [← hh, Bd.state]; rfl
  have N0 := Fr.nil n0
  have pre0 : ∀ t, Steps p.tables e below (s₁.setTop (mkF m 0 #[.val (.int (64 : Int32)), .unset, .unset, .unset] [])) t → Steps p.tables e below (s₁.setTop (entryFrame m #[(.int (64 : Int32))] 4)) t := fun t k => castTop (own_v64_ef4 m ) k
  obtain ⟨T1, X1, e1, st1⟩ := getS2 X0 hx hZ hown (host := "") (Or.inl (hw _ (List.mem_of_getElem? (i := 23) rfl))) Via.refl e0 S_CONNECT (g := (mkF m 8 #[.val (.int (64 : Int32)), .val (.int (4 : Int32)), .unset, .unset] [(.int (4 : Int32))])) rfl (hb hby own_d4_8)
  obtain ⟨T2, X2, e2, st2⟩ := getF X1 hx hZ hown (host := "") (Or.inl (hw _ (List.mem_of_getElem? (i := 15) rfl))) Via.refl e1 F_code_w_CONNECT (g := (mkF m 11 #[.val (.int (64 : Int32)), .val (.int (4 : Int32)), .unset, .unset] [(.ref w_CONNECT), (.int (4 : Int32))])) rfl rfl (hb hby own_d4_11)
  obtain ⟨T3, X3, e3, st3⟩ := getS2 X2 hx hZ hown (host := "") (Or.inl (hw _ (List.mem_of_getElem? (i := 24) rfl))) Via.refl e2 S_DISCONNECT (g := (mkF m 18 #[.val (.int (64 : Int32)), .val (.int (4 : Int32)), .unset, .unset] [(.int (4 : Int32))])) rfl (hb hby own_d4_18)
  obtain ⟨T4, X4, e4, st4⟩ := getF X3 hx hZ hown (host := "") (Or.inl (hw _ (List.mem_of_getElem? (i := 15) rfl))) Via.refl e3 F_code_w_DISCONNECT (g := (mkF m 21 #[.val (.int (64 : Int32)), .val (.int (4 : Int32)), .unset, .unset] [(.ref w_DISCONNECT), (.int (4 : Int32))])) rfl rfl (hb hby own_d4_21)
  obtain ⟨v5, _, ⟨T5, L5, k5, n5⟩, -, X5, ⟨Lc5, hQ5, l5, y5, z5⟩, st5⟩ := Jvm.LawKit.callS X4 hx (y := (⟨"com/example/castd/castd/mqtt/PacketType", "values", "()[Lcom/example/castd/castd/mqtt/PacketType;"⟩ : MethodName)) hown (mvT hZ (hw _ (List.mem_of_getElem? (i := 26) rfl))) (mvT hZ (hw _ (List.mem_of_getElem? (i := 27) rfl))) (mvT hZ (hw _ (List.mem_of_getElem? (i := 6) rfl))) (mvT hZ (hw _ (List.mem_of_getElem? (i := 28) rfl))) (by decide) (backOf (W := 0) (own_rm5 l Z a0 hw [] k_w__VALUES w_CONNECT w_CONNACK w_PUBLISH w_PUBACK w_PUBREC w_PUBREL w_PUBCOMP w_SUBSCRIBE w_SUBACK w_UNSUBSCRIBE w_UNSUBACK w_PINGREQ w_PINGRESP w_DISCONNECT w__VALUES h0 n0 Z0 V_w__VALUES S__VALUES E_w__VALUES) hZ (hw _ (List.mem_of_getElem? (i := 28) rfl)) (hw _ (List.mem_of_getElem? (i := 6) rfl)) (by decide) (by decide)) (g := (mkF m 41 #[.val (.int (64 : Int32)), .val (.int (4 : Int32)), .unset, .unset] [])) rfl (by rw [hml]; rfl) (argsL := []) (rest := []) (lenOf own_pd82 rfl) rfl (by show 2 * 0 + _ ≤ _; exact Nat.le_of_eq rfl) (hb hby own_d4_41) (fun _ _ => ⟨rfl, e4, (by decide : 0 + 1 ≤ _), (by decide : 0 + 14 ≤ _)⟩)
  dsimp only [Pt.U, Pt.locs, Pt.cells, Pt.slots] at X5 l5 y5 z5 st5 hQ5
  subst l5 y5 z5
  obtain ⟨r5, rfl, N5q, K5, hr5, Q5_0, Q5_1⟩ := hQ5
  have ne_w_CONNECT_r5 : w_CONNECT ≠ r5 := Nat.ne_of_lt (Nat.lt_of_lt_of_le F_code_w_CONNECT.lt hr5)
  have ne_w_DISCONNECT_r5 : w_DISCONNECT ≠ r5 := Nat.ne_of_lt (Nat.lt_of_lt_of_le F_code_w_DISCONNECT.lt hr5)
  have ne_w__VALUES_r5 : w__VALUES ≠ r5 := Nat.ne_of_lt (Nat.lt_of_lt_of_le V_w__VALUES.lt hr5)
  have ne_w_PUBACK_r5 : w_PUBACK ≠ r5 := Nat.ne_of_lt (Nat.lt_of_lt_of_le F_requiredFlags_w_PUBACK.lt hr5)
  have g_r5 : n0 ≤ r5 := Nat.le_trans Z0 hr5
  have sz_r5 : h0.size ≤ r5 := hr5
  have f6 := own_staKeep S_CONNECT K5
  have f7 := F_code_w_CONNECT.keep K5 nin0
  have f8 := own_staKeep S_DISCONNECT K5
  have f9 := F_code_w_DISCONNECT.keep K5 nin0
  have f10 := V_w__VALUES.keep K5 nin0
  have f11 := own_staKeep S__VALUES K5
  have f12 := E_w__VALUES.keep K5
  have f13 := F_requiredFlags_w_PUBACK.keep K5 nin0
  have Z14 := Nat.le_trans Z0 K5.1
  have K15 : Keep h0 T5.heap [] := Keep.trans (Keep.refl h0 _) K5 all0
  have N16 := Fr.app N0 N5q
  obtain ⟨T17, X17, e17, st17⟩ := getS2 X5 hx hZ hown (host := "") (Or.inl (hw _ (List.mem_of_getElem? (i := 23) rfl))) Via.refl rfl f6 (g := (mkF m 45 #[.val (.int (64 : Int32)), .val (.int (4 : Int32)), .unset, .unset] [(.int (4 : Int32)), (.ref r5)])) rfl (hb hby own_d4_45)
  obtain ⟨T18, X18, e18, st18⟩ := getF X17 hx hZ hown (host := "") (Or.inl (hw _ (List.mem_of_getElem? (i := 15) rfl))) Via.refl e17 f7 (g := (mkF m 48 #[.val (.int (64 : Int32)), .val (.int (4 : Int32)), .unset, .unset] [(.ref w_CONNECT), (.int (4 : Int32)), (.ref r5)])) rfl rfl (hb hby own_d4_48)
  obtain ⟨cl19, Ar19, qk19, Sz19, Nn19, Hs19, Gf19⟩ := id Q5_0
  have hin19 : ¬ ((3 : Int32) < 0 ∨ cl19.slots.size ≤ ((3 : Int32)).toNatClampNeg) := inb_of Sz19 ⟨by decide, by decide⟩
  have hat19 : cl19.slots[((3 : Int32)).toNatClampNeg]? = some (.ref w_PUBACK) := Has.at Hs19 hin19 rfl
  obtain ⟨T20, X20, e20, st20⟩ := getF X18 hx hZ hown (host := "") (Or.inl (hw _ (List.mem_of_getElem? (i := 13) rfl))) Via.refl e18 f13 (g := (mkF m 60 #[.val (.int (64 : Int32)), .val (.int (4 : Int32)), .val (.ref w_PUBACK), .val (.int (0 : Int32))] [(.ref w_PUBACK)])) rfl rfl (hb hby own_d4_60)
  obtain ⟨T21, X21, e21, st21⟩ := getF X20 hx hZ hown (host := "") (Or.inl (hw _ (List.mem_of_getElem? (i := 13) rfl))) Via.refl e20 f13 (g := (mkF m 69 #[.val (.int (64 : Int32)), .val (.int (4 : Int32)), .val (.ref w_PUBACK), .val (.int (0 : Int32))] [(.ref w_PUBACK), (.int (0 : Int32))])) rfl rfl (hb hby own_d4_69)
  obtain ⟨fs, hr, hrun, hended, hW, hsame⟩ := X21.leave (v := some (.ref w_PUBACK)) (fun h => by rw [Bd.returns] at h; cases h)
  refine ⟨_, _, pre0 _ ?_, hrun, hended, _, _, rfl, ?_, ⟨_, rfl⟩, hW, hsame.mono (by decide) (by decide)⟩
  · show Steps p.tables e below (s₁.setTop (mkF m 0 #[.val (.int (64 : Int32)), .unset, .unset, .unset] [])) _
    refine XS.iloadN X0.here hx rfl (hb hby own_d4_0) rfl ?_
    show Steps p.tables e below (s₁.setTop (mkF m 1 #[.val (.int (64 : Int32)), .unset, .unset, .unset] [(.int (64 : Int32))])) _
    refine XS.iconst X0.here hx rfl (hb hby own_d4_1) ?_
    show Steps p.tables e below (s₁.setTop (mkF m 2 #[.val (.int (64 : Int32)), .unset, .unset, .unset] [(.int (4 : Int32)), (.int (64 : Int32))])) _
    refine XS.ishr X0.here hx rfl (hb hby own_d4_2) rfl ?_
    show Steps p.tables e below (s₁.setTop (mkF m 3 #[.val (.int (64 : Int32)), .unset, .unset, .unset] [(.int (4 : Int32))])) _
    refine XS.bipush X0.here hx rfl (hb hby own_d4_3) ?_
    show Steps p.tables e below (s₁.setTop (mkF m 5 #[.val (.int (64 : Int32)), .unset, .unset, .unset] [(.int (15 : Int32)), (.int (4 : Int32))])) _
    refine XS.iand X0.here hx rfl (hb hby own_d4_5) rfl ?_
    show Steps p.tables e below (s₁.setTop (mkF m 6 #[.val (.int (64 : Int32)), .unset, .unset, .unset] [(.int (4 : Int32))])) _
    refine XS.istoreN X0.here hx rfl (hb hby own_d4_6) rfl (l' := #[.val (.int (64 : Int32)), .val (.int (4 : Int32)), .unset, .unset]) rfl ?_
    show Steps p.tables e below (s₁.setTop (mkF m 7 #[.val (.int (64 : Int32)), .val (.int (4 : Int32)), .unset, .unset] [])) _
    refine XS.iloadN X0.here hx rfl (hb hby own_d4_7) rfl ?_
    show Steps p.tables e below (s₁.setTop (mkF m 8 #[.val (.int (64 : Int32)), .val (.int (4 : Int32)), .unset, .unset] [(.int (4 : Int32))])) _
    refine st1 _ ?_
    show Steps p.tables e below (T1.setTop (mkF m 11 #[.val (.int (64 : Int32)), .val (.int (4 : Int32)), .unset, .unset] [(.ref w_CONNECT), (.int (4 : Int32))])) _
    refine st2 _ ?_
    show Steps p.tables e below (T2.setTop (mkF m 14 #[.val (.int (64 : Int32)), .val (.int (4 : Int32)), .unset, .unset] [(.int (1 : Int32)), (.int (4 : Int32))])) _
    refine XS.icmpNo X2.here hx rfl (hb hby own_d4_14) rfl (flt (by decide : ¬ ((4 : Int32) < (1 : Int32)))).1 ?_
    show Steps p.tables e below (T2.setTop (mkF m 17 #[.val (.int (64 : Int32)), .val (.int (4 : Int32)), .unset, .unset] [])) _
    refine XS.iloadN X2.here hx rfl (hb hby own_d4_17) rfl ?_
    show Steps p.tables e below (T2.setTop (mkF m 18 #[.val (.int (64 : Int32)), .val (.int (4 : Int32)), .unset, .unset] [(.int (4 : Int32))])) _
    refine st3 _ ?_
    show Steps p.tables e below (T3.setTop (mkF m 21 #[.val (.int (64 : Int32)), .val (.int (4 : Int32)), .unset, .unset] [(.ref w_DISCONNECT), (.int (4 : Int32))])) _
    refine st4 _ ?_
    show Steps p.tables e below (T4.setTop (mkF m 24 #[.val (.int (64 : Int32)), .val (.int (4 : Int32)), .unset, .unset] [(.int (14 : Int32)), (.int (4 : Int32))])) _
    refine XS.icmpYes X4.here hx rfl (pc0 := 24) (pc' := 41) rfl (hb hby own_d4_24) rfl (flt (by decide : ¬ ((14 : Int32) < (4 : Int32)))).2.2.2 (by decide) (by decide) ?_
    show Steps p.tables e below (T4.setTop (mkF m 41 #[.val (.int (64 : Int32)), .val (.int (4 : Int32)), .unset, .unset] [])) _
    refine st5 _ ?_
    show Steps p.tables e below (T5.setTop (mkF m 44 #[.val (.int (64 : Int32)), .val (.int (4 : Int32)), .unset, .unset] [(.ref r5)])) _
    refine XS.iloadN X5.here hx rfl (hb hby own_d4_44) rfl ?_
    show Steps p.tables e below (T5.setTop (mkF m 45 #[.val (.int (64 : Int32)), .val (.int (4 : Int32)), .unset, .unset] [(.int (4 : Int32)), (.ref r5)])) _
    refine st17 _ ?_
    show Steps p.tables e below (T17.setTop (mkF m 48 #[.val (.int (64 : Int32)), .val (.int (4 : Int32)), .unset, .unset] [(.ref w_CONNECT), (.int (4 : Int32)), (.ref r5)])) _
    refine st18 _ ?_
    show Steps p.tables e below (T18.setTop (mkF m 51 #[.val (.int (64 : Int32)), .val (.int (4 : Int32)), .unset, .unset] [(.int (1 : Int32)), (.int (4 : Int32)), (.ref r5)])) _
    refine XS.isub X18.here hx rfl (hb hby own_d4_51) rfl ?_
    show Steps p.tables e below (T18.setTop (mkF m 52 #[.val (.int (64 : Int32)), .val (.int (4 : Int32)), .unset, .unset] [(.int (3 : Int32)), (.ref r5)])) _
    refine X18.aaload hx (j := (3 : Int32)) (v := (.ref w_PUBACK)) (by rw [e18]; exact Ar19.1) (State.isArrayOf_alike hZ.alike Ar19.2.1) rfl Ar19.2.2 hin19 hat19 (g := (mkF m 52 #[.val (.int (64 : Int32)), .val (.int (4 : Int32)), .unset, .unset] [(.int (3 : Int32)), (.ref r5)])) rfl rfl (hb hby own_d4_52) _ ?_
    show Steps p.tables e below (T18.setTop (mkF m 53 #[.val (.int (64 : Int32)), .val (.int (4 : Int32)), .unset, .unset] [(.ref w_PUBACK)])) _
    refine XS.astoreN X18.here hx rfl (hb hby own_d4_53) rfl rfl (l' := #[.val (.int (64 : Int32)), .val (.int (4 : Int32)), .val (.ref w_PUBACK), .unset]) rfl ?_
    show Steps p.tables e below (T18.setTop (mkF m 54 #[.val (.int (64 : Int32)), .val (.int (4 : Int32)), .val (.ref w_PUBACK), .unset] [])) _
    refine XS.iloadN X18.here hx rfl (hb hby own_d4_54) rfl ?_
    show Steps p.tables e below (T18.setTop (mkF m 55 #[.val (.int (64 : Int32)), .val (.int (4 : Int32)), .val (.ref w_PUBACK), .unset] [(.int (64 : Int32))])) _
    refine XS.bipush X18.here hx rfl (hb hby own_d4_55) ?_
    show Steps p.tables e below (T18.setTop (mkF m 57 #[.val (.int (64 : Int32)), .val (.int (4 : Int32)), .val (.ref w_PUBACK), .unset] [(.int (15 : Int32)), (.int (64 : Int32))])) _
    refine XS.iand X18.here hx rfl (hb hby own_d4_57) rfl ?_
    show Steps p.tables e below (T18.setTop (mkF m 58 #[.val (.int (64 : Int32)), .val (.int (4 : Int32)), .val (.ref w_PUBACK), .unset] [(.int (0 : Int32))])) _
    refine XS.istoreN X18.here hx rfl (hb hby own_d4_58) rfl (l' := #[.val (.int (64 : Int32)), .val (.int (4 : Int32)), .val (.ref w_PUBACK), .val (.int (0 : Int32))]) rfl ?_
    show Steps p.tables e below (T18.setTop (mkF m 59 #[.val (.int (64 : Int32)), .val (.int (4 : Int32)), .val (.ref w_PUBACK), .val (.int (0 : Int32))] [])) _
    refine XS.aloadN X18.here hx rfl (hb hby own_d4_59) rfl rfl ?_
    show Steps p.tables e below (T18.setTop (mkF m 60 #[.val (.int (64 : Int32)), .val (.int (4 : Int32)), .val (.ref w_PUBACK), .val (.int (0 : Int32))] [(.ref w_PUBACK)])) _
    refine st20 _ ?_
    show Steps p.tables e below (T20.setTop (mkF m 63 #[.val (.int (64 : Int32)), .val (.int (4 : Int32)), .val (.ref w_PUBACK), .val (.int (0 : Int32))] [(.int (0 : Int32))])) _
    refine XS.iconst X20.here hx rfl (hb hby own_d4_63) ?_
    show Steps p.tables e below (T20.setTop (mkF m 64 #[.val (.int (64 : Int32)), .val (.int (4 : Int32)), .val (.ref w_PUBACK), .val (.int (0 : Int32))] [(.int (-1 : Int32)), (.int (0 : Int32))])) _
    refine XS.icmpNo X20.here hx rfl (hb hby own_d4_64) rfl (feq (by decide : ¬ ((0 : Int32) = (-1 : Int32)))).1 ?_
    show Steps p.tables e below (T20.setTop (mkF m 67 #[.val (.int (64 : Int32)), .val (.int (4 : Int32)), .val (.ref w_PUBACK), .val (.int (0 : Int32))] [])) _
    refine XS.iloadN X20.here hx rfl (hb hby own_d4_67) rfl ?_
    show Steps p.tables e below (T20.setTop (mkF m 68 #[.val (.int (64 : Int32)), .val (.int (4 : Int32)), .val (.ref w_PUBACK), .val (.int (0 : Int32))] [(.int (0 : Int32))])) _
    refine XS.aloadN X20.here hx rfl (hb hby own_d4_68) rfl rfl ?_
    show Steps p.tables e below (T20.setTop (mkF m 69 #[.val (.int (64 : Int32)), .val (.int (4 : Int32)), .val (.ref w_PUBACK), .val (.int (0 : Int32))] [(.ref w_PUBACK), (.int (0 : Int32))])) _
    refine st21 _ ?_
    show Steps p.tables e below (T21.setTop (mkF m 72 #[.val (.int (64 : Int32)), .val (.int (4 : Int32)), .val (.ref w_PUBACK), .val (.int (0 : Int32))] [(.int (0 : Int32)), (.int (0 : Int32))])) _
    refine XS.icmpYes X21.here hx rfl (pc0 := 72) (pc' := 97) rfl (hb hby own_d4_72) rfl (teq (by decide : (0 : Int32) = (0 : Int32))).1 (by decide) (by decide) ?_
    show Steps p.tables e below (T21.setTop (mkF m 97 #[.val (.int (64 : Int32)), .val (.int (4 : Int32)), .val (.ref w_PUBACK), .val (.int (0 : Int32))] [])) _
    refine XS.aloadN X21.here hx rfl (hb hby own_d4_97) rfl rfl ?_
    show Steps p.tables e below (T21.setTop (mkF m 98 #[.val (.int (64 : Int32)), .val (.int (4 : Int32)), .val (.ref w_PUBACK), .val (.int (0 : Int32))] [(.ref w_PUBACK)])) _
    jvm_step X21.here [X21.here.top, hx, (hb hby own_d4_98), X21.method', Bd.returns, Value.isRef, FieldType.isReference]
    first | (intro acts; rw [hr _ acts rfl rfl rfl]) | rw [hr _ _ rfl rfl rfl]
    exact Steps.refl _
  · show own_v64_Q4 Z w_CONNECT w_DISCONNECT k_w__VALUES w_CONNACK w_PUBLISH w_PUBACK w_PUBREC w_PUBREL w_PUBCOMP w_SUBSCRIBE w_SUBACK w_UNSUBSCRIBE w_UNSUBACK w_PINGREQ w_PINGRESP w__VALUES h0 n0 _ T21.heap _
    rw [e21]
    exact ⟨(by rw [own_v64_f4]), N16, K15⟩
-- body 4, variant 80
theorem own_v80_ef4 (m : MethodId)  : entryFrame m #[(.int (80 : Int32))] 4 = mkF m 0 #[.val (.int (80 : Int32)), .unset, .unset, .unset] [] := by first | (simp [entryFrame, mkF, argsToLocals, Value.category]; done) | rfl
def own_v80_f4 (w_PUBREC : Addr) : Addr := w_PUBREC
def own_v80_Q4 (Z : State) (w_CONNECT : Addr) (w_DISCONNECT : Addr) (k_w__VALUES : ClassId) (w_CONNACK : Addr) (w_PUBLISH : Addr) (w_PUBACK : Addr) (w_PUBREC : Addr) (w_PUBREL : Addr) (w_PUBCOMP : Addr) (w_SUBSCRIBE : Addr) (w_SUBACK : Addr) (w_UNSUBSCRIBE : Addr) (w_UNSUBACK : Addr) (w_PINGREQ : Addr) (w_PINGRESP : Addr) (w__VALUES : Addr) (h0 : Heap) (n0 : Nat) (v : Option Value) (h : Heap) (L : List Loc) : Prop := v = some (.ref (own_v80_f4 w_PUBREC)) ∧ Fr n0 L ∧ Keep h0 h []
set_option maxRecDepth 65536 in
set_option maxHeartbeats 40000000 in
theorem own_v80_rm4 (l : Launch) (Z : State) (a0 : Array Value) (hw : ∀ d ∈ tables_1, d.before a0 Z = true) (ws : List Jvm.Cond) (w_CONNECT : Addr) (w_DISCONNECT : Addr) (k_w__VALUES : ClassId) (w_CONNACK : Addr) (w_PUBLISH : Addr) (w_PUBACK : Addr) (w_PUBREC : Addr) (w_PUBREL : Addr) (w_PUBCOMP : Addr) (w_SUBSCRIBE : Addr) (w_SUBACK : Addr) (w_UNSUBSCRIBE : Addr) (w_UNSUBACK : Addr) (w_PINGREQ : Addr) (w_PINGRESP : Addr) (w__VALUES : Addr) (h0 : Heap) (n0 : Nat) (Z0 : n0 ≤ h0.size) (S_CONNECT : Sta Z h0 "com/example/castd/castd/mqtt/PacketType" "CONNECT" "Lcom/example/castd/castd/mqtt/PacketType;" (.ref w_CONNECT)) (F_code_w_CONNECT : Fld Z h0 w_CONNECT "com/example/castd/castd/mqtt/PacketType" "code" "I" (.int (1 : Int32))) (S_DISCONNECT : Sta Z h0 "com/example/castd/castd/mqtt/PacketType" "DISCONNECT" "Lcom/example/castd/castd/mqtt/PacketType;" (.ref w_DISCONNECT)) (F_code_w_DISCONNECT : Fld Z h0 w_DISCONNECT "com/example/castd/castd/mqtt/PacketType" "code" "I" (.int (14 : Int32))) (V_w__VALUES : Arv Z h0 w__VALUES k_w__VALUES (.object "com/example/castd/castd/mqtt/PacketType") (14 : Int32) [(.ref w_CONNECT), (.ref w_CONNACK), (.ref w_PUBLISH), (.ref w_PUBACK), (.ref w_PUBREC), (.ref w_PUBREL), (.ref w_PUBCOMP), (.ref w_SUBSCRIBE), (.ref w_SUBACK), (.ref w_UNSUBSCRIBE), (.ref w_UNSUBACK), (.ref w_PINGREQ), (.ref w_PINGRESP), (.ref w_DISCONNECT)] .null) (S__VALUES : Sta Z h0 "com/example/castd/castd/mqtt/PacketType" "$VALUES" "[Lcom/example/castd/castd/mqtt/PacketType;" (.ref w__VALUES)) (E_w__VALUES : Exa Z h0 w__VALUES "[Lcom/example/castd/castd/mqtt/PacketType;") (F_requiredFlags_w_PUBREC : Fld Z h0 w_PUBREC "com/example/castd/castd/mqtt/PacketType" "requiredFlags" "I" (.int (0 : Int32))) :
    MetFree l (⟨"com/example/castd/castd/mqtt/PacketType", "fromFirstByte", "(I)Lcom/example/castd/castd/mqtt/PacketType;"⟩ : MethodName) (head1 (Jvm.Cond.code (⟨"com/example/castd/castd/mqtt/PacketType", "fromFirstByte", "(I)Lcom/example/castd/castd/mqtt/PacketType;"⟩ : MethodName) prog_85_method_4_code 4 (some (.object "com/example/castd/castd/mqtt/PacketType")) :: ws) ({ frames := 2, cells := 1, slots := 14, locals := 25 } : Room)) (fun a U => a = #[(.int (80 : Int32))] ∧ Z.Warmed39 U.vm ∧ U.heap = h0) (fun _ _ _ _ _ => True) (fun _ U o U' => ∃ v L, o = .returned v ∧ own_v80_Q4 Z w_CONNECT w_DISCONNECT k_w__VALUES w_CONNACK w_PUBLISH w_PUBACK w_PUBREC w_PUBREL w_PUBCOMP w_SUBSCRIBE w_SUBACK w_UNSUBSCRIBE w_UNSUBACK w_PINGREQ w_PINGRESP w__VALUES h0 n0 v U'.heap L ∧ FrameEnd U o U' L ({ frames := 2, cells := 1, slots := 14, locals := 25 } : Room).cells ({ frames := 2, cells := 1, slots := 14, locals := 25 } : Room).slots) := by
  refine MetFree.of_bodySF (plainFor_of_name own_pn32) hisR ?_
  intro p e s m args below meth c s₁ Bd hml0 hP hK
  obtain ⟨rfl, hZ, hh⟩ := hP
  have hx := Bd.exec
  have hby := Bd.bytes
  have hml : c.maxLocals = 4 := hml0
  have hown : s.vm.findClass "com/example/castd/castd/mqtt/PacketType" = some m.cls := findClass_of_methodNamed Bd.named
  have hnm := (name_of_methodNamed Bd.named Bd.method).1
  have X0 : Stand p l e ({ frames := 2, cells := 1, slots := 14, locals := 25 } : Room) s m #[(.int (80 : Int32))] below meth c s₁ [] 0 0 := Stand.of_body Bd
  have e0 : s₁.heap = h0 := by rw [← hh, Bd.state]; rfl
  have N0 := Fr.nil n0
  have pre0 : ∀ t, Steps p.tables e below (s₁.setTop (mkF m 0 #[.val (.int (80 : Int32)), .unset, .unset, .unset] [])) t → Steps p.tables e below (s₁.setTop (entryFrame m #[(.int (80 : Int32))] 4)) t := fun t k => castTop (own_v80_ef4 m ) k
  obtain ⟨T1, X1, e1, st1⟩ := getS2 X0 hx hZ hown (host := "") (Or.inl (hw _ (List.mem_of_getElem? (i := 23) rfl))) Via.refl e0 S_CONNECT (g := (mkF m 8 #[.val (.int (80 : Int32)), .val (.int (5 : Int32)), .unset, .unset] [(.int (5 : Int32))])) rfl (hb hby own_d4_8)
  obtain ⟨T2, X2, e2, st2⟩ := getF X1 hx hZ hown (host := "") (Or.inl (hw _ (List.mem_of_getElem? (i := 15) rfl))) Via.refl e1 F_code_w_CONNECT (g := (mkF m 11 #[.val (.int (80 : Int32)), .val (.int (5 : Int32)), .unset, .unset] [(.ref w_CONNECT), (.int (5 : Int32))])) rfl rfl (hb hby own_d4_11)
  obtain ⟨T3, X3, e3, st3⟩ := getS2 X2 hx hZ hown (host := "") (Or.inl (hw _ (List.mem_of_getElem? (i := 24) rfl))) Via.refl e2 S_DISCONNECT (g := (mkF m 18 #[.val (.int (80 : Int32)), .val (.int (5 : Int32)), .unset, .unset] [(.int (5 : Int32))])) rfl (hb hby own_d4_18)
  obtain ⟨T4, X4, e4, st4⟩ := getF X3 hx hZ hown (host := "") (Or.inl (hw _ (List.mem_of_getElem? (i := 15) rfl))) Via.refl e3 F_code_w_DISCONNECT (g := (mkF m 21 #[.val (.int (80 : Int32)), .val (.int (5 : Int32)), .unset, .unset] [(.ref w_DISCONNECT), (.int (5 : Int32))])) rfl rfl (hb hby own_d4_21)
  obtain ⟨v5, _, ⟨T5, L5, k5, n5⟩, -, X5, ⟨Lc5, hQ5, l5, y5, z5⟩, st5⟩ := Jvm.LawKit.callS X4 hx (y := (⟨"com/example/castd/castd/mqtt/PacketType", "values", "()[Lcom/example/castd/castd/mqtt/PacketType;"⟩ : MethodName)) hown (mvT hZ (hw _ (List.mem_of_getElem? (i := 26) rfl))) (mvT hZ (hw _ (List.mem_of_getElem? (i := 27) rfl))) (mvT hZ (hw _ (List.mem_of_getElem? (i := 6) rfl))) (mvT hZ (hw _ (List.mem_of_getElem? (i := 28) rfl))) (by decide) (backOf (W := 0) (own_rm5 l Z a0 hw [] k_w__VALUES w_CONNECT w_CONNACK w_PUBLISH w_PUBACK w_PUBREC w_PUBREL w_PUBCOMP w_SUBSCRIBE w_SUBACK w_UNSUBSCRIBE w_UNSUBACK w_PINGREQ w_PINGRESP w_DISCONNECT w__VALUES h0 n0 Z0 V_w__VALUES S__VALUES E_w__VALUES) hZ (hw _ (List.mem_of_getElem? (i := 28) rfl)) (hw _ (List.mem_of_getElem? (i := 6) rfl)) (by decide) (by decide)) (g := (mkF m 41 #[.val (.int (80 : Int32)), .val (.int (5 : Int32)), .unset, .unset] [])) rfl (by rw [hml]; rfl) (argsL := []) (rest := []) (lenOf own_pd82 rfl) rfl (by show 2 * 0 + _ ≤ _; exact Nat.le_of_eq rfl) (hb hby own_d4_41) (fun _ _ => ⟨rfl, e4, (by decide : 0 + 1 ≤ _), (by decide : 0 + 14 ≤ _)⟩)
  dsimp only [Pt.U, Pt.locs, Pt.cells, Pt.slots] at X5 l5 y5 z5 st5 hQ5
  subst l5 y5 z5
  obtain ⟨r5, rfl, N5q, K5, hr5, Q5_0, Q5_1⟩ := hQ5
  have ne_w_CONNECT_r5 : w_CONNECT ≠ r5 := Nat.ne_of_lt (Nat.lt_of_lt_of_le F_code_w_CONNECT.lt hr5)
  have ne_w_DISCONNECT_r5 : w_DISCONNECT ≠ r5 := Nat.ne_of_lt (Nat.lt_of_lt_of_le F_code_w_DISCONNECT.lt hr5)
  have ne_w__VALUES_r5 : w__VALUES ≠ r5 := Nat.ne_of_lt (Nat.lt_of_lt_of_le V_w__VALUES.lt hr5)
  have ne_w_PUBREC_r5 : w_PUBREC ≠ r5 := Nat.ne_of_lt (Nat.lt_of_lt_of_le F_requiredFlags_w_PUBREC.lt hr5)
  have g_r5 : n0 ≤ r5 := Nat.le_trans Z0 hr5
  have sz_r5 : h0.size ≤ r5 := hr5
  have f6 := own_staKeep S_CONNECT K5
  have f7 := F_code_w_CONNECT.keep K5 nin0
  have f8 := own_staKeep S_DISCONNECT K5
  have f9 := F_code_w_DISCONNECT.keep K5 nin0
  have f10 := V_w__VALUES.keep K5 nin0
  have f11 := own_staKeep S__VALUES K5
  have f12 := E_w__VALUES.keep K5
  have f13 := F_requiredFlags_w_PUBREC.keep K5 nin0
  have Z14 := Nat.le_trans Z0 K5.1
  have K15 : Keep h0 T5.heap [] := Keep.trans (Keep.refl h0 _) K5 all0
  have N16 := Fr.app N0 N5q
  obtain ⟨T17, X17, e17, st17⟩ := getS2 X5 hx hZ hown (host := "") (Or.inl (hw _ (List.mem_of_getElem? (i := 23) rfl))) Via.refl rfl f6 (g := (mkF m 45 #[.val (.int (80 : Int32)), .val (.int (5 : Int32)), .unset, .unset] [(.int (5 : Int32)), (.ref r5)])) rfl (hb hby own_d4_45)
  obtain ⟨T18, X18, e18, st18⟩ := getF X17 hx hZ hown (host := "") (Or.inl (hw _ (List.mem_of_getElem? (i := 15) rfl))) Via.refl e17 f7 (g := (mkF m 48 #[.val (.int (80 : Int32)), .val (.int (5 : Int32)), .unset, .unset] [(.ref w_CONNECT), (.int (5 : Int32)), (.ref r5)])) rfl rfl (hb hby own_d4_48)
  obtain ⟨cl19, Ar19, qk19, Sz19, Nn19, Hs19, Gf19⟩ := id Q5_0
  have hin19 : ¬ ((4 : Int32) < 0 ∨ cl19.slots.size ≤ ((4 : Int32)).toNatClampNeg) := inb_of Sz19 ⟨by decide, by decide⟩
  have hat19 : cl19.slots[((4 : Int32)).toNatClampNeg]? = some (.ref w_PUBREC) := Has.at Hs19 hin19 rfl
  obtain ⟨T20, X20, e20, st20⟩ := getF X18 hx hZ hown (host := "") (Or.inl (hw _ (List.mem_of_getElem? (i := 13) rfl))) Via.refl e18 f13 (g := (mkF m 60 #[.val (.int (80 : Int32)), .val (.int (5 : Int32)), .val (.ref w_PUBREC), .val (.int (0 : Int32))] [(.ref w_PUBREC)])) rfl rfl (hb hby own_d4_60)
  obtain ⟨T21, X21, e21, st21⟩ := getF X20 hx hZ hown (host := "") (Or.inl (hw _ (List.mem_of_getElem? (i := 13) rfl))) Via.refl e20 f13 (g := (mkF m 69 #[.val (.int (80 : Int32)), .val (.int (5 : Int32)), .val (.ref w_PUBREC), .val (.int (0 : Int32))] [(.ref w_PUBREC), (.int (0 : Int32))])) rfl rfl (hb hby own_d4_69)
  obtain ⟨fs, hr, hrun, hended, hW, hsame⟩ := X21.leave (v := some (.ref w_PUBREC)) (fun h => by rw [Bd.returns] at h; cases h)
  refine ⟨_, _, pre0 _ ?_, hrun, hended, _, _, rfl, ?_, ⟨_, rfl⟩, hW, hsame.mono (by decide) (by decide)⟩
  · show Steps p.tables e below (s₁.setTop (mkF m 0 #[.val (.int (80 : Int32)), .unset, .unset, .unset] [])) _
    refine XS.iloadN X0.here hx rfl (hb hby own_d4_0) rfl ?_
    show Steps p.tables e below (s₁.setTop (mkF m 1 #[.val (.int (80 : Int32)), .unset, .unset, .unset] [(.int (80 : Int32))])) _
    refine XS.iconst X0.here hx rfl (hb hby own_d4_1) ?_
    show Steps p.tables e below (s₁.setTop (mkF m 2 #[.val (.int (80 : Int32)), .unset, .unset, .unset] [(.int (4 : Int32)), (.int (80 : Int32))])) _
    refine XS.ishr X0.here hx rfl (hb hby own_d4_2) rfl ?_
    show Steps p.tables e below (s₁.setTop (mkF m 3 #[.val (.int (80 : Int32)), .unset, .unset, .unset] [(.int (5 : Int32))])) _
    refine XS.bipush X0.here hx rfl (hb hby own_d4_3) ?_
    show Steps p.tables e below (s₁.setTop (mkF m 5 #[.val (.int (80 : Int32)), .unset, .unset, .unset] [(.int (15 : Int32)), (.int (5 : Int32))])) _
    refine XS.iand X0.here hx rfl (hb hby own_d4_5) rfl ?_
    show Steps p.tables e below (s₁.setTop (mkF m 6 #[.val (.int (80 : Int32)), .unset, .unset, .unset] [(.int (5 : Int32))])) _
    refine XS.istoreN X0.here hx rfl (hb hby own_d4_6) rfl (l' := #[.val (.int (80 : Int32)), .val (.int (5 : Int32)), .unset, .unset]) rfl ?_
    show Steps p.tables e below (s₁.setTop (mkF m 7 #[.val (.int (80 : Int32)), .val (.int (5 : Int32)), .unset, .unset] [])) _
    refine XS.iloadN X0.here hx rfl (hb hby own_d4_7) rfl ?_
    show Steps p.tables e below (s₁.setTop (mkF m 8 #[.val (.int (80 : Int32)), .val (.int (5 : Int32)), .unset, .unset] [(.int (5 : Int32))])) _
    refine st1 _ ?_
    show Steps p.tables e below (T1.setTop (mkF m 11 #[.val (.int (80 : Int32)), .val (.int (5 : Int32)), .unset, .unset] [(.ref w_CONNECT), (.int (5 : Int32))])) _
    refine st2 _ ?_
    show Steps p.tables e below (T2.setTop (mkF m 14 #[.val (.int (80 : Int32)), .val (.int (5 : Int32)), .unset, .unset] [(.int (1 : Int32)), (.int (5 : Int32))])) _
    refine XS.icmpNo X2.here hx rfl (hb hby own_d4_14) rfl (flt (by decide : ¬ ((5 : Int32) < (1 : Int32)))).1 ?_
    show Steps p.tables e below (T2.setTop (mkF m 17 #[.val (.int (80 : Int32)), .val (.int (5 : Int32)), .unset, .unset] [])) _
    refine XS.iloadN X2.here hx rfl (hb hby own_d4_17) rfl ?_
    show Steps p.tables e below (T2.setTop (mkF m 18 #[.val (.int (80 : Int32)), .val (.int (5 : Int32)), .unset, .unset] [(.int (5 : Int32))])) _
    refine st3 _ ?_
    show Steps p.tables e below (T3.setTop (mkF m 21 #[.val (.int (80 : Int32)), .val (.int (5 : Int32)), .unset, .unset] [(.ref w_DISCONNECT), (.int (5 : Int32))])) _
    refine st4 _ ?_
    show Steps p.tables e below (T4.setTop (mkF m 24 #[.val (.int (80 : Int32)), .val (.int (5 : Int32)), .unset, .unset] [(.int (14 : Int32)), (.int (5 : Int32))])) _
    refine XS.icmpYes X4.here hx rfl (pc0 := 24) (pc' := 41) rfl (hb hby own_d4_24) rfl (flt (by decide : ¬ ((14 : Int32) < (5 : Int32)))).2.2.2 (by decide) (by decide) ?_
    show Steps p.tables e below (T4.setTop (mkF m 41 #[.val (.int (80 : Int32)), .val (.int (5 : Int32)), .unset, .unset] [])) _
    refine st5 _ ?_
    show Steps p.tables e below (T5.setTop (mkF m 44 #[.val (.int (80 : Int32)), .val (.int (5 : Int32)), .unset, .unset] [(.ref r5)])) _
    refine XS.iloadN X5.here hx rfl (hb hby own_d4_44) rfl ?_
    show Steps p.tables e below (T5.setTop (mkF m 45 #[.val (.int (80 : Int32)), .val (.int (5 : Int32)), .unset, .unset] [(.int (5 : Int32)), (.ref r5)])) _
    refine st17 _ ?_
    show Steps p.tables e below (T17.setTop (mkF m 48 #[.val (.int (80 : Int32)), .val (.int (5 : Int32)), .unset, .unset] [(.ref w_CONNECT), (.int (5 : Int32)), (.ref r5)])) _
    refine st18 _ ?_
    show Steps p.tables e below (T18.setTop (mkF m 51 #[.val (.int (80 : Int32)), .val (.int (5 : Int32)), .unset, .unset] [(.int (1 : Int32)), (.int (5 : Int32)), (.ref r5)])) _
    refine XS.isub X18.here hx rfl (hb hby own_d4_51) rfl ?_
    show Steps p.tables e below (T18.setTop (mkF m 52 #[.val (.int (80 : Int32)), .val (.int (5 : Int32)), .unset, .unset] [(.int (4 : Int32)), (.ref r5)])) _
    refine X18.aaload hx (j := (4 : Int32)) (v := (.ref w_PUBREC)) (by rw [e18]; exact Ar19.1) (State.isArrayOf_alike hZ.alike Ar19.2.1) rfl Ar19.2.2 hin19 hat19 (g := (mkF m 52 #[.val (.int (80 : Int32)), .val (.int (5 : Int32)), .unset, .unset] [(.int (4 : Int32)), (.ref r5)])) rfl rfl (hb hby own_d4_52) _ ?_
    show Steps p.tables e below (T18.setTop (mkF m 53 #[.val (.int (80 : Int32)), .val (.int (5 : Int32)), .unset, .unset] [(.ref w_PUBREC)])) _
    refine XS.astoreN X18.here hx rfl (hb hby own_d4_53) rfl rfl (l' := #[.val (.int (80 : Int32)), .val (.int (5 : Int32)), .val (.ref w_PUBREC), .unset]) rfl ?_
    show Steps p.tables e below (T18.setTop (mkF m 54 #[.val (.int (80 : Int32)), .val (.int (5 : Int32)), .val (.ref w_PUBREC), .unset] [])) _
    refine XS.iloadN X18.here hx rfl (hb hby own_d4_54) rfl ?_
    show Steps p.tables e below (T18.setTop (mkF m 55 #[.val (.int (80 : Int32)), .val (.int (5 : Int32)), .val (.ref w_PUBREC), .unset] [(.int (80 : Int32))])) _
    refine XS.bipush X18.here hx rfl (hb hby own_d4_55) ?_
    show Steps p.tables e below (T18.setTop (mkF m 57 #[.val (.int (80 : Int32)), .val (.int (5 : Int32)), .val (.ref w_PUBREC), .unset] [(.int (15 : Int32)), (.int (80 : Int32))])) _
    refine XS.iand X18.here hx rfl (hb hby own_d4_57) rfl ?_
    show Steps p.tables e below (T18.setTop (mkF m 58 #[.val (.int (80 : Int32)), .val (.int (5 : Int32)), .val (.ref w_PUBREC), .unset] [(.int (0 : Int32))])) _
    refine XS.istoreN X18.here hx rfl (hb hby own_d4_58) rfl (l' := #[.val (.int (80 : Int32)), .val (.int (5 : Int32)), .val (.ref w_PUBREC), .val (.int (0 : Int32))]) rfl ?_
    show Steps p.tables e below (T18.setTop (mkF m 59 #[.val (.int (80 : Int32)), .val (.int (5 : Int32)), .val (.ref w_PUBREC), .val (.int (0 : Int32))] [])) _
    refine XS.aloadN X18.here hx rfl (hb hby own_d4_59) rfl rfl ?_
    show Steps p.tables e below (T18.setTop (mkF m 60 #[.val (.int (80 : Int32)), .val (.int (5 : Int32)), .val (.ref w_PUBREC), .val (.int (0 : Int32))] [(.ref w_PUBREC)])) _
    refine st20 _ ?_
    show Steps p.tables e below (T20.setTop (mkF m 63 #[.val (.int (80 : Int32)), .val (.int (5 : Int32)), .val (.ref w_PUBREC), .val (.int (0 : Int32))] [(.int (0 : Int32))])) _
    refine XS.iconst X20.here hx rfl (hb hby own_d4_63) ?_
    show Steps p.tables e below (T20.setTop (mkF m 64 #[.val (.int (80 : Int32)), .val (.int (5 : Int32)), .val (.ref w_PUBREC), .val (.int (0 : Int32))] [(.int (-1 : Int32)), (.int (0 : Int32))])) _
    refine XS.icmpNo X20.here hx rfl (hb hby own_d4_64) rfl (feq (by decide : ¬ ((0 : Int32) = (-1 : Int32)))).1 ?_
    show Steps p.tables e below (T20.setTop (mkF m 67 #[.val (.int (80 : Int32)), .val (.int (5 : Int32)), .val (.ref w_PUBREC), .val (.int (0 : Int32))] [])) _
    refine XS.iloadN X20.here hx rfl (hb hby own_d4_67) rfl ?_
    show Steps p.tables e below (T20.setTop (mkF m 68 #[.val (.int (80 : Int32)), .val (.int (5 : Int32)), .val (.ref w_PUBREC), .val (.int (0 : Int32))] [(.int (0 : Int32))])) _
    refine XS.aloadN X20.here hx rfl (hb hby own_d4_68) rfl rfl ?_
    show Steps p.tables e below (T20.setTop (mkF m 69 #[.val (.int (80 : Int32)), .val (.int (5 : Int32)), .val (.ref w_PUBREC), .val (.int (0 : Int32))] [(.ref w_PUBREC), (.int (0 : Int32))])) _
    refine st21 _ ?_
    show Steps p.tables e below (T21.setTop (mkF m 72 #[.val (.int (80 : Int32)), .val (.int (5 : Int32)), .val (.ref w_PUBREC), .val (.int (0 : Int32))] [(.int (0 : Int32)), (.int (0 : Int32))])) _
    refine XS.icmpYes X21.here hx rfl (pc0 := 72) (pc' := 97) rfl (hb hby own_d4_72) rfl (teq (by decide : (0 : Int32) = (0 : Int32))).1 (by decide) (by decide) ?_
    show Steps p.tables e below (T21.setTop (mkF m 97 #[.val (.int (80 : Int32)), .val (.int (5 : Int32)), .val (.ref w_PUBREC), .val (.int (0 : Int32))] [])) _
    refine XS.aloadN X21.here hx rfl (hb hby own_d4_97) rfl rfl ?_
    show Steps p.tables e below (T21.setTop (mkF m 98 #[.val (.int (80 : Int32)), .val (.int (5 : Int32)), .val (.ref w_PUBREC), .val (.int (0 : Int32))] [(.ref w_PUBREC)])) _
    jvm_step X21.here [X21.here.top, hx, (hb hby own_d4_98), X21.method', Bd.returns, Value.isRef, FieldType.isReference]
    first | (intro acts; rw [hr _ acts rfl rfl rfl]) | rw [hr _ _ rfl rfl rfl]
    exact Steps.refl _
  · show own_v80_Q4 Z w_CONNECT w_DISCONNECT k_w__VALUES w_CONNACK w_PUBLISH w_PUBACK w_PUBREC w_PUBREL w_PUBCOMP w_SUBSCRIBE w_SUBACK w_UNSUBSCRIBE w_UNSUBACK w_PINGREQ w_PINGRESP w__VALUES h0 n0 _ T21.heap _
    rw [e21]
    exact ⟨(by rw [own_v80_f4]), N16, K15⟩
-- body 4, variant 98
theorem own_v98_ef4 (m : MethodId)  : entryFrame m #[(.int (98 : Int32))] 4 = mkF m 0 #[.val (.int (98 : Int32)), .unset, .unset, .unset] [] := by first | (simp [entryFrame, mkF, argsToLocals, Value.category]; done) | rfl
def own_v98_f4 (w_PUBREL : Addr) : Addr := w_PUBREL
def own_v98_Q4 (Z : State) (w_CONNECT : Addr) (w_DISCONNECT : Addr) (k_w__VALUES : ClassId) (w_CONNACK : Addr) (w_PUBLISH : Addr) (w_PUBACK : Addr) (w_PUBREC : Addr) (w_PUBREL : Addr) (w_PUBCOMP : Addr) (w_SUBSCRIBE : Addr) (w_SUBACK : Addr) (w_UNSUBSCRIBE : Addr) (w_UNSUBACK : Addr) (w_PINGREQ : Addr) (w_PINGRESP : Addr) (w__VALUES : Addr) (h0 : Heap) (n0 : Nat) (v : Option Value) (h : Heap) (L : List Loc) : Prop := v = some (.ref (own_v98_f4 w_PUBREL)) ∧ Fr n0 L ∧ Keep h0 h []
set_option maxRecDepth 65536 in
set_option maxHeartbeats 40000000 in
theorem own_v98_rm4 (l : Launch) (Z : State) (a0 : Array Value) (hw : ∀ d ∈ tables_1, d.before a0 Z = true) (ws : List Jvm.Cond) (w_CONNECT : Addr) (w_DISCONNECT : Addr) (k_w__VALUES : ClassId) (w_CONNACK : Addr) (w_PUBLISH : Addr) (w_PUBACK : Addr) (w_PUBREC : Addr) (w_PUBREL : Addr) (w_PUBCOMP : Addr) (w_SUBSCRIBE : Addr) (w_SUBACK : Addr) (w_UNSUBSCRIBE : Addr) (w_UNSUBACK : Addr) (w_PINGREQ : Addr) (w_PINGRESP : Addr) (w__VALUES : Addr) (h0 : Heap) (n0 : Nat) (Z0 : n0 ≤ h0.size) (S_CONNECT : Sta Z h0 "com/example/castd/castd/mqtt/PacketType" "CONNECT" "Lcom/example/castd/castd/mqtt/PacketType;" (.ref w_CONNECT)) (F_code_w_CONNECT : Fld Z h0 w_CONNECT "com/example/castd/castd/mqtt/PacketType" "code" "I" (.int (1 : Int32))) (S_DISCONNECT : Sta Z h0 "com/example/castd/castd/mqtt/PacketType" "DISCONNECT" "Lcom/example/castd/castd/mqtt/PacketType;" (.ref w_DISCONNECT)) (F_code_w_DISCONNECT : Fld Z h0 w_DISCONNECT "com/example/castd/castd/mqtt/PacketType" "code" "I" (.int (14 : Int32))) (V_w__VALUES : Arv Z h0 w__VALUES k_w__VALUES (.object "com/example/castd/castd/mqtt/PacketType") (14 : Int32) [(.ref w_CONNECT), (.ref w_CONNACK), (.ref w_PUBLISH), (.ref w_PUBACK), (.ref w_PUBREC), (.ref w_PUBREL), (.ref w_PUBCOMP), (.ref w_SUBSCRIBE), (.ref w_SUBACK), (.ref w_UNSUBSCRIBE), (.ref w_UNSUBACK), (.ref w_PINGREQ), (.ref w_PINGRESP), (.ref w_DISCONNECT)] .null) (S__VALUES : Sta Z h0 "com/example/castd/castd/mqtt/PacketType" "$VALUES" "[Lcom/example/castd/castd/mqtt/PacketType;" (.ref w__VALUES)) (E_w__VALUES : Exa Z h0 w__VALUES "[Lcom/example/castd/castd/mqtt/PacketType;") (F_requiredFlags_w_PUBREL : Fld Z h0 w_PUBREL "com/example/castd/castd/mqtt/PacketType" "requiredFlags" "I" (.int (2 : Int32))) :
    MetFree l (⟨"com/example/castd/castd/mqtt/PacketType", "fromFirstByte", "(I)Lcom/example/castd/castd/mqtt/PacketType;"⟩ : MethodName) (head1 (Jvm.Cond.code (⟨"com/example/castd/castd/mqtt/PacketType", "fromFirstByte", "(I)Lcom/example/castd/castd/mqtt/PacketType;"⟩ : MethodName) prog_85_method_4_code 4 (some (.object "com/example/castd/castd/mqtt/PacketType")) :: ws) ({ frames := 2, cells := 1, slots := 14, locals := 25 } : Room)) (fun a U => a = #[(.int (98 : Int32))] ∧ Z.Warmed39 U.vm ∧ U.heap = h0) (fun _ _ _ _ _ => True) (fun _ U o U' => ∃ v L, o = .returned v ∧ own_v98_Q4 Z w_CONNECT w_DISCONNECT k_w__VALUES w_CONNACK w_PUBLISH w_PUBACK w_PUBREC w_PUBREL w_PUBCOMP w_SUBSCRIBE w_SUBACK w_UNSUBSCRIBE w_UNSUBACK w_PINGREQ w_PINGRESP w__VALUES h0 n0 v U'.heap L ∧ FrameEnd U o U' L ({ frames := 2, cells := 1, slots := 14, locals := 25 } : Room).cells ({ frames := 2, cells := 1, slots := 14, locals := 25 } : Room).slots) := by
  refine MetFree.of_bodySF (plainFor_of_name own_pn32) hisR ?_
  intro p e s m args below meth c s₁ Bd hml0 hP hK
  obtain ⟨rfl, hZ, hh⟩ := hP
  have hx := Bd.exec
  have hby := Bd.bytes
  have hml : c.maxLocals = 4 := hml0
  have hown : s.vm.findClass "com/example/castd/castd/mqtt/PacketType" = some m.cls := findClass_of_methodNamed Bd.named
  have hnm := (name_of_methodNamed Bd.named Bd.method).1
  have X0 : Stand p l e ({ frames := 2, cells := 1, slots := 14, locals := 25 } : Room) s m #[(.int (98 : Int32))] below meth c s₁ [] 0 0 := Stand.of_body Bd
  have e0 : s₁.heap = h0 := by rw [← hh, Bd.state]; rfl
  have N0 := Fr.nil n0
  have pre0 : ∀ t, Steps p.tables e below (s₁.setTop (mkF m 0 #[.val (.int (98 : Int32)), .unset, .unset, .unset] [])) t → Steps p.tables e below (s₁.setTop (entryFrame m #[(.int (98 : Int32))] 4)) t := fun t k => castTop (own_v98_ef4 m ) k
  obtain ⟨T1, X1, e1, st1⟩ := getS2 X0 hx hZ hown (host := "") (Or.inl (hw _ (List.mem_of_getElem? (i := 23) rfl))) Via.refl e0 S_CONNECT (g := (mkF m 8 #[.val (.int (98 : Int32)), .val (.int (6 : Int32)), .unset, .unset] [(.int (6 : Int32))])) rfl (hb hby own_d4_8)
  obtain ⟨T2, X2, e2, st2⟩ := getF X1 hx hZ hown (host := "") (Or.inl (hw _ (List.mem_of_getElem? (i := 15) rfl))) Via.refl e1 F_code_w_CONNECT (g := (mkF m 11 #[.val (.int (98 : Int32)), .val (.int (6 : Int32)), .unset, .unset] [(.ref w_CONNECT), (.int (6 : Int32))])) rfl rfl (hb hby own_d4_11)
  obtain ⟨T3, X3, e3, st3⟩ := getS2 X2 hx hZ hown (host := "") (Or.inl (hw _ (List.mem_of_getElem? (i := 24) rfl))) Via.refl e2 S_DISCONNECT (g := (mkF m 18 #[.val (.int (98 : Int32)), .val (.int (6 : Int32)), .unset, .unset] [(.int (6 : Int32))])) rfl (hb hby own_d4_18)
  obtain ⟨T4, X4, e4, st4⟩ := getF X3 hx hZ hown (host := "") (Or.inl (hw _ (List.mem_of_getElem? (i := 15) rfl))) Via.refl e3 F_code_w_DISCONNECT (g := (mkF m 21 #[.val (.int (98 : Int32)), .val (.int (6 : Int32)), .unset, .unset] [(.ref w_DISCONNECT), (.int (6 : Int32))])) rfl rfl (hb hby own_d4_21)
  obtain ⟨v5, _, ⟨T5, L5, k5, n5⟩, -, X5, ⟨Lc5, hQ5, l5, y5, z5⟩, st5⟩ := Jvm.LawKit.callS X4 hx (y := (⟨"com/example/castd/castd/mqtt/PacketType", "values", "()[Lcom/example/castd/castd/mqtt/PacketType;"⟩ : MethodName)) hown (mvT hZ (hw _ (List.mem_of_getElem? (i := 26) rfl))) (mvT hZ (hw _ (List.mem_of_getElem? (i := 27) rfl))) (mvT hZ (hw _ (List.mem_of_getElem? (i := 6) rfl))) (mvT hZ (hw _ (List.mem_of_getElem? (i := 28) rfl))) (by decide) (backOf (W := 0) (own_rm5 l Z a0 hw [] k_w__VALUES w_CONNECT w_CONNACK w_PUBLISH w_PUBACK w_PUBREC w_PUBREL w_PUBCOMP w_SUBSCRIBE w_SUBACK w_UNSUBSCRIBE w_UNSUBACK w_PINGREQ w_PINGRESP w_DISCONNECT w__VALUES h0 n0 Z0 V_w__VALUES S__VALUES E_w__VALUES) hZ (hw _ (List.mem_of_getElem? (i := 28) rfl)) (hw _ (List.mem_of_getElem? (i := 6) rfl)) (by decide) (by decide)) (g := (mkF m 41 #[.val (.int (98 : Int32)), .val (.int (6 : Int32)), .unset, .unset] [])) rfl (by rw [hml]; rfl) (argsL := []) (rest := []) (lenOf own_pd82 rfl) rfl (by show 2 * 0 + _ ≤ _; exact Nat.le_of_eq rfl) (hb hby own_d4_41) (fun _ _ => ⟨rfl, e4, (by decide : 0 + 1 ≤ _), (by decide : 0 + 14 ≤ _)⟩)
  dsimp only [Pt.U, Pt.locs, Pt.cells, Pt.slots] at X5 l5 y5 z5 st5 hQ5
  subst l5 y5 z5
  obtain ⟨r5, rfl, N5q, K5, hr5, Q5_0, Q5_1⟩ := hQ5
  have ne_w_CONNECT_r5 : w_CONNECT ≠ r5 := Nat.ne_of_lt (Nat.lt_of_lt_of_le F_code_w_CONNECT.lt hr5)
  have ne_w_DISCONNECT_r5 : w_DISCONNECT ≠ r5 := Nat.ne_of_lt (Nat.lt_of_lt_of_le F_code_w_DISCONNECT.lt hr5)
  have ne_w__VALUES_r5 : w__VALUES ≠ r5 := Nat.ne_of_lt (Nat.lt_of_lt_of_le V_w__VALUES.lt hr5)
  have ne_w_PUBREL_r5 : w_PUBREL ≠ r5 := Nat.ne_of_lt (Nat.lt_of_lt_of_le F_requiredFlags_w_PUBREL.lt hr5)
  have g_r5 : n0 ≤ r5 := Nat.le_trans Z0 hr5
  have sz_r5 : h0.size ≤ r5 := hr5
  have f6 := own_staKeep S_CONNECT K5
  have f7 := F_code_w_CONNECT.keep K5 nin0
  have f8 := own_staKeep S_DISCONNECT K5
  have f9 := F_code_w_DISCONNECT.keep K5 nin0
  have f10 := V_w__VALUES.keep K5 nin0
  have f11 := own_staKeep S__VALUES K5
  have f12 := E_w__VALUES.keep K5
  have f13 := F_requiredFlags_w_PUBREL.keep K5 nin0
  have Z14 := Nat.le_trans Z0 K5.1
  have K15 : Keep h0 T5.heap [] := Keep.trans (Keep.refl h0 _) K5 all0
  have N16 := Fr.app N0 N5q
  obtain ⟨T17, X17, e17, st17⟩ := getS2 X5 hx hZ hown (host := "") (Or.inl (hw _ (List.mem_of_getElem? (i := 23) rfl))) Via.refl rfl f6 (g := (mkF m 45 #[.val (.int (98 : Int32)), .val (.int (6 : Int32)), .unset, .unset] [(.int (6 : Int32)), (.ref r5)])) rfl (hb hby own_d4_45)
  obtain ⟨T18, X18, e18, st18⟩ := getF X17 hx hZ hown (host := "") (Or.inl (hw _ (List.mem_of_getElem? (i := 15) rfl))) Via.refl e17 f7 (g := (mkF m 48 #[.val (.int (98 : Int32)), .val (.int (6 : Int32)), .unset, .unset] [(.ref w_CONNECT), (.int (6 : Int32)), (.ref r5)])) rfl rfl (hb hby own_d4_48)
  obtain ⟨cl19, Ar19, qk19, Sz19, Nn19, Hs19, Gf19⟩ := id Q5_0
  have hin19 : ¬ ((5 : Int32) < 0 ∨ cl19.slots.size ≤ ((5 : Int32)).toNatClampNeg) := inb_of Sz19 ⟨by decide, by decide⟩
  have hat19 : cl19.slots[((5 : Int32)).toNatClampNeg]? = some (.ref w_PUBREL) := Has.at Hs19 hin19 rfl
  obtain ⟨T20, X20, e20, st20⟩ := getF X18 hx hZ hown (host := "") (Or.inl (hw _ (List.mem_of_getElem? (i := 13) rfl))) Via.refl e18 f13 (g := (mkF m 60 #[.val (.int (98 : Int32)), .val (.int (6 : Int32)), .val (.ref w_PUBREL), .val (.int (2 : Int32))] [(.ref w_PUBREL)])) rfl rfl (hb hby own_d4_60)
  obtain ⟨T21, X21, e21, st21⟩ := getF X20 hx hZ hown (host := "") (Or.inl (hw _ (List.mem_of_getElem? (i := 13) rfl))) Via.refl e20 f13 (g := (mkF m 69 #[.val (.int (98 : Int32)), .val (.int (6 : Int32)), .val (.ref w_PUBREL), .val (.int (2 : Int32))] [(.ref w_PUBREL), (.int (2 : Int32))])) rfl rfl (hb hby own_d4_69)
  obtain ⟨fs, hr, hrun, hended, hW, hsame⟩ := X21.leave (v := some (.ref w_PUBREL)) (fun h => by rw [Bd.returns] at h; cases h)
  refine ⟨_, _, pre0 _ ?_, hrun, hended, _, _, rfl, ?_, ⟨_, rfl⟩, hW, hsame.mono (by decide) (by decide)⟩
  · show Steps p.tables e below (s₁.setTop (mkF m 0 #[.val (.int (98 : Int32)), .unset, .unset, .unset] [])) _
    refine XS.iloadN X0.here hx rfl (hb hby own_d4_0) rfl ?_
    show Steps p.tables e below (s₁.setTop (mkF m 1 #[.val (.int (98 : Int32)), .unset, .unset, .unset] [(.int (98 : Int32))])) _
    refine XS.iconst X0.here hx rfl (hb hby own_d4_1) ?_
    show Steps p.tables e below (s₁.setTop (mkF m 2 #[.val (.int (98 : Int32)), .unset, .unset, .unset] [(.int (4 : Int32)), (.int (98 : Int32))])) _
    refine XS.ishr X0.here hx rfl (hb hby own_d4_2) rfl ?_
    show Steps p.tables e below (s₁.setTop (mkF m 3 #[.val (.int (98 : Int32)), .unset, .unset, .unset] [(.int (6 : Int32))])) _
    refine XS.bipush X0.here hx rfl (hb hby own_d4_3) ?_
    show Steps p.tables e below (s₁.setTop (mkF m 5 #[.val (.int (98 : Int32)), .unset, .unset, .unset] [(.int (15 : Int32)), (.int (6 : Int32))])) _
    refine XS.iand X0.here hx rfl (hb hby own_d4_5) rfl ?_
    show Steps p.tables e below (s₁.setTop (mkF m 6 #[.val (.int (98 : Int32)), .unset, .unset, .unset] [(.int (6 : Int32))])) _
    refine XS.istoreN X0.here hx rfl (hb hby own_d4_6) rfl (l' := #[.val (.int (98 : Int32)), .val (.int (6 : Int32)), .unset, .unset]) rfl ?_
    show Steps p.tables e below (s₁.setTop (mkF m 7 #[.val (.int (98 : Int32)), .val (.int (6 : Int32)), .unset, .unset] [])) _
    refine XS.iloadN X0.here hx rfl (hb hby own_d4_7) rfl ?_
    show Steps p.tables e below (s₁.setTop (mkF m 8 #[.val (.int (98 : Int32)), .val (.int (6 : Int32)), .unset, .unset] [(.int (6 : Int32))])) _
    refine st1 _ ?_
    show Steps p.tables e below (T1.setTop (mkF m 11 #[.val (.int (98 : Int32)), .val (.int (6 : Int32)), .unset, .unset] [(.ref w_CONNECT), (.int (6 : Int32))])) _
    refine st2 _ ?_
    show Steps p.tables e below (T2.setTop (mkF m 14 #[.val (.int (98 : Int32)), .val (.int (6 : Int32)), .unset, .unset] [(.int (1 : Int32)), (.int (6 : Int32))])) _
    refine XS.icmpNo X2.here hx rfl (hb hby own_d4_14) rfl (flt (by decide : ¬ ((6 : Int32) < (1 : Int32)))).1 ?_
    show Steps p.tables e below (T2.setTop (mkF m 17 #[.val (.int (98 : Int32)), .val (.int (6 : Int32)), .unset, .unset] [])) _
    refine XS.iloadN X2.here hx rfl (hb hby own_d4_17) rfl ?_
    show Steps p.tables e below (T2.setTop (mkF m 18 #[.val (.int (98 : Int32)), .val (.int (6 : Int32)), .unset, .unset] [(.int (6 : Int32))])) _
    refine st3 _ ?_
    show Steps p.tables e below (T3.setTop (mkF m 21 #[.val (.int (98 : Int32)), .val (.int (6 : Int32)), .unset, .unset] [(.ref w_DISCONNECT), (.int (6 : Int32))])) _
    refine st4 _ ?_
    show Steps p.tables e below (T4.setTop (mkF m 24 #[.val (.int (98 : Int32)), .val (.int (6 : Int32)), .unset, .unset] [(.int (14 : Int32)), (.int (6 : Int32))])) _
    refine XS.icmpYes X4.here hx rfl (pc0 := 24) (pc' := 41) rfl (hb hby own_d4_24) rfl (flt (by decide : ¬ ((14 : Int32) < (6 : Int32)))).2.2.2 (by decide) (by decide) ?_
    show Steps p.tables e below (T4.setTop (mkF m 41 #[.val (.int (98 : Int32)), .val (.int (6 : Int32)), .unset, .unset] [])) _
    refine st5 _ ?_
    show Steps p.tables e below (T5.setTop (mkF m 44 #[.val (.int (98 : Int32)), .val (.int (6 : Int32)), .unset, .unset] [(.ref r5)])) _
    refine XS.iloadN X5.here hx rfl (hb hby own_d4_44) rfl ?_
    show Steps p.tables e below (T5.setTop (mkF m 45 #[.val (.int (98 : Int32)), .val (.int (6 : Int32)), .unset, .unset] [(.int (6 : Int32)), (.ref r5)])) _
    refine st17 _ ?_
    show Steps p.tables e below (T17.setTop (mkF m 48 #[.val (.int (98 : Int32)), .val (.int (6 : Int32)), .unset, .unset] [(.ref w_CONNECT), (.int (6 : Int32)), (.ref r5)])) _
    refine st18 _ ?_
    show Steps p.tables e below (T18.setTop (mkF m 51 #[.val (.int (98 : Int32)), .val (.int (6 : Int32)), .unset, .unset] [(.int (1 : Int32)), (.int (6 : Int32)), (.ref r5)])) _
    refine XS.isub X18.here hx rfl (hb hby own_d4_51) rfl ?_
    show Steps p.tables e below (T18.setTop (mkF m 52 #[.val (.int (98 : Int32)), .val (.int (6 : Int32)), .unset, .unset] [(.int (5 : Int32)), (.ref r5)])) _
    refine X18.aaload hx (j := (5 : Int32)) (v := (.ref w_PUBREL)) (by rw [e18]; exact Ar19.1) (State.isArrayOf_alike hZ.alike Ar19.2.1) rfl Ar19.2.2 hin19 hat19 (g := (mkF m 52 #[.val (.int (98 : Int32)), .val (.int (6 : Int32)), .unset, .unset] [(.int (5 : Int32)), (.ref r5)])) rfl rfl (hb hby own_d4_52) _ ?_
    show Steps p.tables e below (T18.setTop (mkF m 53 #[.val (.int (98 : Int32)), .val (.int (6 : Int32)), .unset, .unset] [(.ref w_PUBREL)])) _
    refine XS.astoreN X18.here hx rfl (hb hby own_d4_53) rfl rfl (l' := #[.val (.int (98 : Int32)), .val (.int (6 : Int32)), .val (.ref w_PUBREL), .unset]) rfl ?_
    show Steps p.tables e below (T18.setTop (mkF m 54 #[.val (.int (98 : Int32)), .val (.int (6 : Int32)), .val (.ref w_PUBREL), .unset] [])) _
    refine XS.iloadN X18.here hx rfl (hb hby own_d4_54) rfl ?_
    show Steps p.tables e below (T18.setTop (mkF m 55 #[.val (.int (98 : Int32)), .val (.int (6 : Int32)), .val (.ref w_PUBREL), .unset] [(.int (98 : Int32))])) _
    refine XS.bipush X18.here hx rfl (hb hby own_d4_55) ?_
    show Steps p.tables e below (T18.setTop (mkF m 57 #[.val (.int (98 : Int32)), .val (.int (6 : Int32)), .val (.ref w_PUBREL), .unset] [(.int (15 : Int32)), (.int (98 : Int32))])) _
    refine XS.iand X18.here hx rfl (hb hby own_d4_57) rfl ?_
    show Steps p.tables e below (T18.setTop (mkF m 58 #[.val (.int (98 : Int32)), .val (.int (6 : Int32)), .val (.ref w_PUBREL), .unset] [(.int (2 : Int32))])) _
    refine XS.istoreN X18.here hx rfl (hb hby own_d4_58) rfl (l' := #[.val (.int (98 : Int32)), .val (.int (6 : Int32)), .val (.ref w_PUBREL), .val (.int (2 : Int32))]) rfl ?_
    show Steps p.tables e below (T18.setTop (mkF m 59 #[.val (.int (98 : Int32)), .val (.int (6 : Int32)), .val (.ref w_PUBREL), .val (.int (2 : Int32))] [])) _
    refine XS.aloadN X18.here hx rfl (hb hby own_d4_59) rfl rfl ?_
    show Steps p.tables e below (T18.setTop (mkF m 60 #[.val (.int (98 : Int32)), .val (.int (6 : Int32)), .val (.ref w_PUBREL), .val (.int (2 : Int32))] [(.ref w_PUBREL)])) _
    refine st20 _ ?_
    show Steps p.tables e below (T20.setTop (mkF m 63 #[.val (.int (98 : Int32)), .val (.int (6 : Int32)), .val (.ref w_PUBREL), .val (.int (2 : Int32))] [(.int (2 : Int32))])) _
    refine XS.iconst X20.here hx rfl (hb hby own_d4_63) ?_
    show Steps p.tables e below (T20.setTop (mkF m 64 #[.val (.int (98 : Int32)), .val (.int (6 : Int32)), .val (.ref w_PUBREL), .val (.int (2 : Int32))] [(.int (-1 : Int32)), (.int (2 : Int32))])) _
    refine XS.icmpNo X20.here hx rfl (hb hby own_d4_64) rfl (feq (by decide : ¬ ((2 : Int32) = (-1 : Int32)))).1 ?_
    show Steps p.tables e below (T20.setTop (mkF m 67 #[.val (.int (98 : Int32)), .val (.int (6 : Int32)), .val (.ref w_PUBREL), .val (.int (2 : Int32))] [])) _
    refine XS.iloadN X20.here hx rfl (hb hby own_d4_67) rfl ?_
    show Steps p.tables e below (T20.setTop (mkF m 68 #[.val (.int (98 : Int32)), .val (.int (6 : Int32)), .val (.ref w_PUBREL), .val (.int (2 : Int32))] [(.int (2 : Int32))])) _
    refine XS.aloadN X20.here hx rfl (hb hby own_d4_68) rfl rfl ?_
    show Steps p.tables e below (T20.setTop (mkF m 69 #[.val (.int (98 : Int32)), .val (.int (6 : Int32)), .val (.ref w_PUBREL), .val (.int (2 : Int32))] [(.ref w_PUBREL), (.int (2 : Int32))])) _
    refine st21 _ ?_
    show Steps p.tables e below (T21.setTop (mkF m 72 #[.val (.int (98 : Int32)), .val (.int (6 : Int32)), .val (.ref w_PUBREL), .val (.int (2 : Int32))] [(.int (2 : Int32)), (.int (2 : Int32))])) _
    refine XS.icmpYes X21.here hx rfl (pc0 := 72) (pc' := 97) rfl (hb hby own_d4_72) rfl (teq (by decide : (2 : Int32) = (2 : Int32))).1 (by decide) (by decide) ?_
    show Steps p.tables e below (T21.setTop (mkF m 97 #[.val (.int (98 : Int32)), .val (.int (6 : Int32)), .val (.ref w_PUBREL), .val (.int (2 : Int32))] [])) _
    refine XS.aloadN X21.here hx rfl (hb hby own_d4_97) rfl rfl ?_
    show Steps p.tables e below (T21.setTop (mkF m 98 #[.val (.int (98 : Int32)), .val (.int (6 : Int32)), .val (.ref w_PUBREL), .val (.int (2 : Int32))] [(.ref w_PUBREL)])) _
    jvm_step X21.here [X21.here.top, hx, (hb hby own_d4_98), X21.method', Bd.returns, Value.isRef, FieldType.isReference]
    first | (intro acts; rw [hr _ acts rfl rfl rfl]) | rw [hr _ _ rfl rfl rfl]
    exact Steps.refl _
  · show own_v98_Q4 Z w_CONNECT w_DISCONNECT k_w__VALUES w_CONNACK w_PUBLISH w_PUBACK w_PUBREC w_PUBREL w_PUBCOMP w_SUBSCRIBE w_SUBACK w_UNSUBSCRIBE w_UNSUBACK w_PINGREQ w_PINGRESP w__VALUES h0 n0 _ T21.heap _
    rw [e21]
    exact ⟨(by rw [own_v98_f4]), N16, K15⟩
-- body 4, variant 112
theorem own_v112_ef4 (m : MethodId)  : entryFrame m #[(.int (112 : Int32))] 4 = mkF m 0 #[.val (.int (112 : Int32)), .unset, .unset, .unset] [] := by first | (simp [entryFrame, mkF, argsToLocals, Value.category]; done) | rfl
def own_v112_f4 (w_PUBCOMP : Addr) : Addr := w_PUBCOMP
def own_v112_Q4 (Z : State) (w_CONNECT : Addr) (w_DISCONNECT : Addr) (k_w__VALUES : ClassId) (w_CONNACK : Addr) (w_PUBLISH : Addr) (w_PUBACK : Addr) (w_PUBREC : Addr) (w_PUBREL : Addr) (w_PUBCOMP : Addr) (w_SUBSCRIBE : Addr) (w_SUBACK : Addr) (w_UNSUBSCRIBE : Addr) (w_UNSUBACK : Addr) (w_PINGREQ : Addr) (w_PINGRESP : Addr) (w__VALUES : Addr) (h0 : Heap) (n0 : Nat) (v : Option Value) (h : Heap) (L : List Loc) : Prop := v = some (.ref (own_v112_f4 w_PUBCOMP)) ∧ Fr n0 L ∧ Keep h0 h []
set_option maxRecDepth 65536 in
set_option maxHeartbeats 40000000 in
theorem own_v112_rm4 (l : Launch) (Z : State) (a0 : Array Value) (hw : ∀ d ∈ tables_1, d.before a0 Z = true) (ws : List Jvm.Cond) (w_CONNECT : Addr) (w_DISCONNECT : Addr) (k_w__VALUES : ClassId) (w_CONNACK : Addr) (w_PUBLISH : Addr) (w_PUBACK : Addr) (w_PUBREC : Addr) (w_PUBREL : Addr) (w_PUBCOMP : Addr) (w_SUBSCRIBE : Addr) (w_SUBACK : Addr) (w_UNSUBSCRIBE : Addr) (w_UNSUBACK : Addr) (w_PINGREQ : Addr) (w_PINGRESP : Addr) (w__VALUES : Addr) (h0 : Heap) (n0 : Nat) (Z0 : n0 ≤ h0.size) (S_CONNECT : Sta Z h0 "com/example/castd/castd/mqtt/PacketType" "CONNECT" "Lcom/example/castd/castd/mqtt/PacketType;" (.ref w_CONNECT)) (F_code_w_CONNECT : Fld Z h0 w_CONNECT "com/example/castd/castd/mqtt/PacketType" "code" "I" (.int (1 : Int32))) (S_DISCONNECT : Sta Z h0 "com/example/castd/castd/mqtt/PacketType" "DISCONNECT" "Lcom/example/castd/castd/mqtt/PacketType;" (.ref w_DISCONNECT)) (F_code_w_DISCONNECT : Fld Z h0 w_DISCONNECT "com/example/castd/castd/mqtt/PacketType" "code" "I" (.int (14 : Int32))) (V_w__VALUES : Arv Z h0 w__VALUES k_w__VALUES (.object "com/example/castd/castd/mqtt/PacketType") (14 : Int32) [(.ref w_CONNECT), (.ref w_CONNACK), (.ref w_PUBLISH), (.ref w_PUBACK), (.ref w_PUBREC), (.ref w_PUBREL), (.ref w_PUBCOMP), (.ref w_SUBSCRIBE), (.ref w_SUBACK), (.ref w_UNSUBSCRIBE), (.ref w_UNSUBACK), (.ref w_PINGREQ), (.ref w_PINGRESP), (.ref w_DISCONNECT)] .null) (S__VALUES : Sta Z h0 "com/example/castd/castd/mqtt/PacketType" "$VALUES" "[Lcom/example/castd/castd/mqtt/PacketType;" (.ref w__VALUES)) (E_w__VALUES : Exa Z h0 w__VALUES "[Lcom/example/castd/castd/mqtt/PacketType;") (F_requiredFlags_w_PUBCOMP : Fld Z h0 w_PUBCOMP "com/example/castd/castd/mqtt/PacketType" "requiredFlags" "I" (.int (0 : Int32))) :
    MetFree l (⟨"com/example/castd/castd/mqtt/PacketType", "fromFirstByte", "(I)Lcom/example/castd/castd/mqtt/PacketType;"⟩ : MethodName) (head1 (Jvm.Cond.code (⟨"com/example/castd/castd/mqtt/PacketType", "fromFirstByte", "(I)Lcom/example/castd/castd/mqtt/PacketType;"⟩ : MethodName) prog_85_method_4_code 4 (some (.object "com/example/castd/castd/mqtt/PacketType")) :: ws) ({ frames := 2, cells := 1, slots := 14, locals := 25 } : Room)) (fun a U => a = #[(.int (112 : Int32))] ∧ Z.Warmed39 U.vm ∧ U.heap = h0) (fun _ _ _ _ _ => True) (fun _ U o U' => ∃ v L, o = .returned v ∧ own_v112_Q4 Z w_CONNECT w_DISCONNECT k_w__VALUES w_CONNACK w_PUBLISH w_PUBACK w_PUBREC w_PUBREL w_PUBCOMP w_SUBSCRIBE w_SUBACK w_UNSUBSCRIBE w_UNSUBACK w_PINGREQ w_PINGRESP w__VALUES h0 n0 v U'.heap L ∧ FrameEnd U o U' L ({ frames := 2, cells := 1, slots := 14, locals := 25 } : Room).cells ({ frames := 2, cells := 1, slots := 14, locals := 25 } : Room).slots) := by
  refine MetFree.of_bodySF (plainFor_of_name own_pn32) hisR ?_
  intro p e s m args below meth c s₁ Bd hml0 hP hK
  obtain ⟨rfl, hZ, hh⟩ := hP
  have hx := Bd.exec
  have hby := Bd.bytes
  have hml : c.maxLocals = 4 := hml0
  have hown : s.vm.findClass "com/example/castd/castd/mqtt/PacketType" = some m.cls := findClass_of_methodNamed Bd.named
  have hnm := (name_of_methodNamed Bd.named Bd.method).1
  have X0 : Stand p l e ({ frames := 2, cells := 1, slots := 14, locals := 25 } : Room) s m #[(.int (112 : Int32))] below meth c s₁ [] 0 0 := Stand.of_body Bd
  have e0 : s₁.heap = h0 := by rw [← hh, Bd.state]; rfl
  have N0 := Fr.nil n0
  have pre0 : ∀ t, Steps p.tables e below (s₁.setTop (mkF m 0 #[.val (.int (112 : Int32)), .unset, .unset, .unset] [])) t → Steps p.tables e below (s₁.setTop (entryFrame m #[(.int (112 : Int32))] 4)) t := fun t k => castTop (own_v112_ef4 m ) k
  obtain ⟨T1, X1, e1, st1⟩ := getS2 X0 hx hZ hown (host := "") (Or.inl (hw _ (List.mem_of_getElem? (i := 23) rfl))) Via.refl e0 S_CONNECT (g := (mkF m 8 #[.val (.int (112 : Int32)), .val (.int (7 : Int32)), .unset, .unset] [(.int (7 : Int32))])) rfl (hb hby own_d4_8)
  obtain ⟨T2, X2, e2, st2⟩ := getF X1 hx hZ hown (host := "") (Or.inl (hw _ (List.mem_of_getElem? (i := 15) rfl))) Via.refl e1 F_code_w_CONNECT (g := (mkF m 11 #[.val (.int (112 : Int32)), .val (.int (7 : Int32)), .unset, .unset] [(.ref w_CONNECT), (.int (7 : Int32))])) rfl rfl (hb hby own_d4_11)
  obtain ⟨T3, X3, e3, st3⟩ := getS2 X2 hx hZ hown (host := "") (Or.inl (hw _ (List.mem_of_getElem? (i := 24) rfl))) Via.refl e2 S_DISCONNECT (g := (mkF m 18 #[.val (.int (112 : Int32)), .val (.int (7 : Int32)), .unset, .unset] [(.int (7 : Int32))])) rfl (hb hby own_d4_18)
  obtain ⟨T4, X4, e4, st4⟩ := getF X3 hx hZ hown (host := "") (Or.inl (hw _ (List.mem_of_getElem? (i := 15) rfl))) Via.refl e3 F_code_w_DISCONNECT (g := (mkF m 21 #[.val (.int (112 : Int32)), .val (.int (7 : Int32)), .unset, .unset] [(.ref w_DISCONNECT), (.int (7 : Int32))])) rfl rfl (hb hby own_d4_21)
  obtain ⟨v5, _, ⟨T5, L5, k5, n5⟩, -, X5, ⟨Lc5, hQ5, l5, y5, z5⟩, st5⟩ := Jvm.LawKit.callS X4 hx (y := (⟨"com/example/castd/castd/mqtt/PacketType", "values", "()[Lcom/example/castd/castd/mqtt/PacketType;"⟩ : MethodName)) hown (mvT hZ (hw _ (List.mem_of_getElem? (i := 26) rfl))) (mvT hZ (hw _ (List.mem_of_getElem? (i := 27) rfl))) (mvT hZ (hw _ (List.mem_of_getElem? (i := 6) rfl))) (mvT hZ (hw _ (List.mem_of_getElem? (i := 28) rfl))) (by decide) (backOf (W := 0) (own_rm5 l Z a0 hw [] k_w__VALUES w_CONNECT w_CONNACK w_PUBLISH w_PUBACK w_PUBREC w_PUBREL w_PUBCOMP w_SUBSCRIBE w_SUBACK w_UNSUBSCRIBE w_UNSUBACK w_PINGREQ w_PINGRESP w_DISCONNECT w__VALUES h0 n0 Z0 V_w__VALUES S__VALUES E_w__VALUES) hZ (hw _ (List.mem_of_getElem? (i := 28) rfl)) (hw _ (List.mem_of_getElem? (i := 6) rfl)) (by decide) (by decide)) (g := (mkF m 41 #[.val (.int (112 : Int32)), .val (.int (7 : Int32)), .unset, .unset] [])) rfl (by rw [hml]; rfl) (argsL := []) (rest := []) (lenOf own_pd82 rfl) rfl (by show 2 * 0 + _ ≤ _; exact Nat.le_of_eq rfl) (hb hby own_d4_41) (fun _ _ => ⟨rfl, e4, (by decide : 0 + 1 ≤ _), (by decide : 0 + 14 ≤ _)⟩)
  dsimp only [Pt.U, Pt.locs, Pt.cells, Pt.slots] at X5 l5 y5 z5 st5 hQ5
  subst l5 y5 z5
  obtain ⟨r5, rfl, N5q, K5, hr5, Q5_0, Q5_1⟩ := hQ5
  have ne_w_CONNECT_r5 : w_CONNECT ≠ r5 := Nat.ne_of_lt (Nat.lt_of_lt_of_le F_code_w_CONNECT.lt hr5)
  have ne_w_DISCONNECT_r5 : w_DISCONNECT ≠ r5 := Nat.ne_of_lt (Nat.lt_of_lt_of_le F_code_w_DISCONNECT.lt hr5)
  have ne_w__VALUES_r5 : w__VALUES ≠ r5 := Nat.ne_of_lt (Nat.lt_of_lt_of_le V_w__VALUES.lt hr5)
  have ne_w_PUBCOMP_r5 : w_PUBCOMP ≠ r5 := Nat.ne_of_lt (Nat.lt_of_lt_of_le F_requiredFlags_w_PUBCOMP.lt hr5)
  have g_r5 : n0 ≤ r5 := Nat.le_trans Z0 hr5
  have sz_r5 : h0.size ≤ r5 := hr5
  have f6 := own_staKeep S_CONNECT K5
  have f7 := F_code_w_CONNECT.keep K5 nin0
  have f8 := own_staKeep S_DISCONNECT K5
  have f9 := F_code_w_DISCONNECT.keep K5 nin0
  have f10 := V_w__VALUES.keep K5 nin0
  have f11 := own_staKeep S__VALUES K5
  have f12 := E_w__VALUES.keep K5
  have f13 := F_requiredFlags_w_PUBCOMP.keep K5 nin0
  have Z14 := Nat.le_trans Z0 K5.1
  have K15 : Keep h0 T5.heap [] := Keep.trans (Keep.refl h0 _) K5 all0
  have N16 := Fr.app N0 N5q
  obtain ⟨T17, X17, e17, st17⟩ := getS2 X5 hx hZ hown (host := "") (Or.inl (hw _ (List.mem_of_getElem? (i := 23) rfl))) Via.refl rfl f6 (g := (mkF m 45 #[.val (.int (112 : Int32)), .val (.int (7 : Int32)), .unset, .unset] [(.int (7 : Int32)), (.ref r5)])) rfl (hb hby own_d4_45)
  obtain ⟨T18, X18, e18, st18⟩ := getF X17 hx hZ hown (host := "") (Or.inl (hw _ (List.mem_of_getElem? (i := 15) rfl))) Via.refl e17 f7 (g := (mkF m 48 #[.val (.int (112 : Int32)), .val (.int (7 : Int32)), .unset, .unset] [(.ref w_CONNECT), (.int (7 : Int32)), (.ref r5)])) rfl rfl (hb hby own_d4_48)
  obtain ⟨cl19, Ar19, qk19, Sz19, Nn19, Hs19, Gf19⟩ := id Q5_0
  have hin19 : ¬ ((6 : Int32) < 0 ∨ cl19.slots.size ≤ ((6 : Int32)).toNatClampNeg) := inb_of Sz19 ⟨by decide, by decide⟩
  have hat19 : cl19.slots[((6 : Int32)).toNatClampNeg]? = some (.ref w_PUBCOMP) := Has.at Hs19 hin19 rfl
  obtain ⟨T20, X20, e20, st20⟩ := getF X18 hx hZ hown (host := "") (Or.inl (hw _ (List.mem_of_getElem? (i := 13) rfl))) Via.refl e18 f13 (g := (mkF m 60 #[.val (.int (112 : Int32)), .val (.int (7 : Int32)), .val (.ref w_PUBCOMP), .val (.int (0 : Int32))] [(.ref w_PUBCOMP)])) rfl rfl (hb hby own_d4_60)
  obtain ⟨T21, X21, e21, st21⟩ := getF X20 hx hZ hown (host := "") (Or.inl (hw _ (List.mem_of_getElem? (i := 13) rfl))) Via.refl e20 f13 (g := (mkF m 69 #[.val (.int (112 : Int32)), .val (.int (7 : Int32)), .val (.ref w_PUBCOMP), .val (.int (0 : Int32))] [(.ref w_PUBCOMP), (.int (0 : Int32))])) rfl rfl (hb hby own_d4_69)
  obtain ⟨fs, hr, hrun, hended, hW, hsame⟩ := X21.leave (v := some (.ref w_PUBCOMP)) (fun h => by rw [Bd.returns] at h; cases h)
  refine ⟨_, _, pre0 _ ?_, hrun, hended, _, _, rfl, ?_, ⟨_, rfl⟩, hW, hsame.mono (by decide) (by decide)⟩
  · show Steps p.tables e below (s₁.setTop (mkF m 0 #[.val (.int (112 : Int32)), .unset, .unset, .unset] [])) _
    refine XS.iloadN X0.here hx rfl (hb hby own_d4_0) rfl ?_
    show Steps p.tables e below (s₁.setTop (mkF m 1 #[.val (.int (112 : Int32)), .unset, .unset, .unset] [(.int (112 : Int32))])) _
    refine XS.iconst X0.here hx rfl (hb hby own_d4_1) ?_
    show Steps p.tables e below (s₁.setTop (mkF m 2 #[.val (.int (112 : Int32)), .unset, .unset, .unset] [(.int (4 : Int32)), (.int (112 : Int32))])) _
    refine XS.ishr X0.here hx rfl (hb hby own_d4_2) rfl ?_
    show Steps p.tables e below (s₁.setTop (mkF m 3 #[.val (.int (112 : Int32)), .unset, .unset, .unset] [(.int (7 : Int32))])) _
    refine XS.bipush X0.here hx rfl (hb hby own_d4_3) ?_
    show Steps p.tables e below (s₁.setTop (mkF m 5 #[.val (.int (112 : Int32)), .unset, .unset, .unset] [(.int (15 : Int32)), (.int (7 : Int32))])) _
    refine XS.iand X0.here hx rfl (hb hby own_d4_5) rfl ?_
    show Steps p.tables e below (s₁.setTop (mkF m 6 #[.val (.int (112 : Int32)), .unset, .unset, .unset] [(.int (7 : Int32))])) _
    refine XS.istoreN X0.here hx rfl (hb hby own_d4_6) rfl (l' := #[.val (.int (112 : Int32)), .val (.int (7 : Int32)), .unset, .unset]) rfl ?_
    show Steps p.tables e below (s₁.setTop (mkF m 7 #[.val (.int (112 : Int32)), .val (.int (7 : Int32)), .unset, .unset] [])) _
    refine XS.iloadN X0.here hx rfl (hb hby own_d4_7) rfl ?_
    show Steps p.tables e below (s₁.setTop (mkF m 8 #[.val (.int (112 : Int32)), .val (.int (7 : Int32)), .unset, .unset] [(.int (7 : Int32))])) _
    refine st1 _ ?_
    show Steps p.tables e below (T1.setTop (mkF m 11 #[.val (.int (112 : Int32)), .val (.int (7 : Int32)), .unset, .unset] [(.ref w_CONNECT), (.int (7 : Int32))])) _
    refine st2 _ ?_
    show Steps p.tables e below (T2.setTop (mkF m 14 #[.val (.int (112 : Int32)), .val (.int (7 : Int32)), .unset, .unset] [(.int (1 : Int32)), (.int (7 : Int32))])) _
    refine XS.icmpNo X2.here hx rfl (hb hby own_d4_14) rfl (flt (by decide : ¬ ((7 : Int32) < (1 : Int32)))).1 ?_
    show Steps p.tables e below (T2.setTop (mkF m 17 #[.val (.int (112 : Int32)), .val (.int (7 : Int32)), .unset, .unset] [])) _
    refine XS.iloadN X2.here hx rfl (hb hby own_d4_17) rfl ?_
    show Steps p.tables e below (T2.setTop (mkF m 18 #[.val (.int (112 : Int32)), .val (.int (7 : Int32)), .unset, .unset] [(.int (7 : Int32))])) _
    refine st3 _ ?_
    show Steps p.tables e below (T3.setTop (mkF m 21 #[.val (.int (112 : Int32)), .val (.int (7 : Int32)), .unset, .unset] [(.ref w_DISCONNECT), (.int (7 : Int32))])) _
    refine st4 _ ?_
    show Steps p.tables e below (T4.setTop (mkF m 24 #[.val (.int (112 : Int32)), .val (.int (7 : Int32)), .unset, .unset] [(.int (14 : Int32)), (.int (7 : Int32))])) _
    refine XS.icmpYes X4.here hx rfl (pc0 := 24) (pc' := 41) rfl (hb hby own_d4_24) rfl (flt (by decide : ¬ ((14 : Int32) < (7 : Int32)))).2.2.2 (by decide) (by decide) ?_
    show Steps p.tables e below (T4.setTop (mkF m 41 #[.val (.int (112 : Int32)), .val (.int (7 : Int32)), .unset, .unset] [])) _
    refine st5 _ ?_
    show Steps p.tables e below (T5.setTop (mkF m 44 #[.val (.int (112 : Int32)), .val (.int (7 : Int32)), .unset, .unset] [(.ref r5)])) _
    refine XS.iloadN X5.here hx rfl (hb hby own_d4_44) rfl ?_
    show Steps p.tables e below (T5.setTop (mkF m 45 #[.val (.int (112 : Int32)), .val (.int (7 : Int32)), .unset, .unset] [(.int (7 : Int32)), (.ref r5)])) _
    refine st17 _ ?_
    show Steps p.tables e below (T17.setTop (mkF m 48 #[.val (.int (112 : Int32)), .val (.int (7 : Int32)), .unset, .unset] [(.ref w_CONNECT), (.int (7 : Int32)), (.ref r5)])) _
    refine st18 _ ?_
    show Steps p.tables e below (T18.setTop (mkF m 51 #[.val (.int (112 : Int32)), .val (.int (7 : Int32)), .unset, .unset] [(.int (1 : Int32)), (.int (7 : Int32)), (.ref r5)])) _
    refine XS.isub X18.here hx rfl (hb hby own_d4_51) rfl ?_
    show Steps p.tables e below (T18.setTop (mkF m 52 #[.val (.int (112 : Int32)), .val (.int (7 : Int32)), .unset, .unset] [(.int (6 : Int32)), (.ref r5)])) _
    refine X18.aaload hx (j := (6 : Int32)) (v := (.ref w_PUBCOMP)) (by rw [e18]; exact Ar19.1) (State.isArrayOf_alike hZ.alike Ar19.2.1) rfl Ar19.2.2 hin19 hat19 (g := (mkF m 52 #[.val (.int (112 : Int32)), .val (.int (7 : Int32)), .unset, .unset] [(.int (6 : Int32)), (.ref r5)])) rfl rfl (hb hby own_d4_52) _ ?_
    show Steps p.tables e below (T18.setTop (mkF m 53 #[.val (.int (112 : Int32)), .val (.int (7 : Int32)), .unset, .unset] [(.ref w_PUBCOMP)])) _
    refine XS.astoreN X18.here hx rfl (hb hby own_d4_53) rfl rfl (l' := #[.val (.int (112 : Int32)), .val (.int (7 : Int32)), .val (.ref w_PUBCOMP), .unset]) rfl ?_
    show Steps p.tables e below (T18.setTop (mkF m 54 #[.val (.int (112 : Int32)), .val (.int (7 : Int32)), .val (.ref w_PUBCOMP), .unset] [])) _
    refine XS.iloadN X18.here hx rfl (hb hby own_d4_54) rfl ?_
    show Steps p.tables e below (T18.setTop (mkF m 55 #[.val (.int (112 : Int32)), .val (.int (7 : Int32)), .val (.ref w_PUBCOMP), .unset] [(.int (112 : Int32))])) _
    refine XS.bipush X18.here hx rfl (hb hby own_d4_55) ?_
    show Steps p.tables e below (T18.setTop (mkF m 57 #[.val (.int (112 : Int32)), .val (.int (7 : Int32)), .val (.ref w_PUBCOMP), .unset] [(.int (15 : Int32)), (.int (112 : Int32))])) _
    refine XS.iand X18.here hx rfl (hb hby own_d4_57) rfl ?_
    show Steps p.tables e below (T18.setTop (mkF m 58 #[.val (.int (112 : Int32)), .val (.int (7 : Int32)), .val (.ref w_PUBCOMP), .unset] [(.int (0 : Int32))])) _
    refine XS.istoreN X18.here hx rfl (hb hby own_d4_58) rfl (l' := #[.val (.int (112 : Int32)), .val (.int (7 : Int32)), .val (.ref w_PUBCOMP), .val (.int (0 : Int32))]) rfl ?_
    show Steps p.tables e below (T18.setTop (mkF m 59 #[.val (.int (112 : Int32)), .val (.int (7 : Int32)), .val (.ref w_PUBCOMP), .val (.int (0 : Int32))] [])) _
    refine XS.aloadN X18.here hx rfl (hb hby own_d4_59) rfl rfl ?_
    show Steps p.tables e below (T18.setTop (mkF m 60 #[.val (.int (112 : Int32)), .val (.int (7 : Int32)), .val (.ref w_PUBCOMP), .val (.int (0 : Int32))] [(.ref w_PUBCOMP)])) _
    refine st20 _ ?_
    show Steps p.tables e below (T20.setTop (mkF m 63 #[.val (.int (112 : Int32)), .val (.int (7 : Int32)), .val (.ref w_PUBCOMP), .val (.int (0 : Int32))] [(.int (0 : Int32))])) _
    refine XS.iconst X20.here hx rfl (hb hby own_d4_63) ?_
    show Steps p.tables e below (T20.setTop (mkF m 64 #[.val (.int (112 : Int32)), .val (.int (7 : Int32)), .val (.ref w_PUBCOMP), .val (.int (0 : Int32))] [(.int (-1 : Int32)), (.int (0 : Int32))])) _
    refine XS.icmpNo X20.here hx rfl (hb hby own_d4_64) rfl (feq (by decide : ¬ ((0 : Int32) = (-1 : Int32)))).1 ?_
    show Steps p.tables e below (T20.setTop (mkF m 67 #[.val (.int (112 : Int32)), .val (.int (7 : Int32)), .val (.ref w_PUBCOMP), .val (.int (0 : Int32))] [])) _
    refine XS.iloadN X20.here hx rfl (hb hby own_d4_67) rfl ?_
    show Steps p.tables e below (T20.setTop (mkF m 68 #[.val (.int (112 : Int32)), .val (.int (7 : Int32)), .val (.ref w_PUBCOMP), .val (.int (0 : Int32))] [(.int (0 : Int32))])) _
    refine XS.aloadN X20.here hx rfl (hb hby own_d4_68) rfl rfl ?_
    show Steps p.tables e below (T20.setTop (mkF m 69 #[.val (.int (112 : Int32)), .val (.int (7 : Int32)), .val (.ref w_PUBCOMP), .val (.int (0 : Int32))] [(.ref w_PUBCOMP), (.int (0 : Int32))])) _
    refine st21 _ ?_
    show Steps p.tables e below (T21.setTop (mkF m 72 #[.val (.int (112 : Int32)), .val (.int (7 : Int32)), .val (.ref w_PUBCOMP), .val (.int (0 : Int32))] [(.int (0 : Int32)), (.int (0 : Int32))])) _
    refine XS.icmpYes X21.here hx rfl (pc0 := 72) (pc' := 97) rfl (hb hby own_d4_72) rfl (teq (by decide : (0 : Int32) = (0 : Int32))).1 (by decide) (by decide) ?_
    show Steps p.tables e below (T21.setTop (mkF m 97 #[.val (.int (112 : Int32)), .val (.int (7 : Int32)), .val (.ref w_PUBCOMP), .val (.int (0 : Int32))] [])) _
    refine XS.aloadN X21.here hx rfl (hb hby own_d4_97) rfl rfl ?_
    show Steps p.tables e below (T21.setTop (mkF m 98 #[.val (.int (112 : Int32)), .val (.int (7 : Int32)), .val (.ref w_PUBCOMP), .val (.int (0 : Int32))] [(.ref w_PUBCOMP)])) _
    jvm_step X21.here [X21.here.top, hx, (hb hby own_d4_98), X21.method', Bd.returns, Value.isRef, FieldType.isReference]
    first | (intro acts; rw [hr _ acts rfl rfl rfl]) | rw [hr _ _ rfl rfl rfl]
    exact Steps.refl _
  · show own_v112_Q4 Z w_CONNECT w_DISCONNECT k_w__VALUES w_CONNACK w_PUBLISH w_PUBACK w_PUBREC w_PUBREL w_PUBCOMP w_SUBSCRIBE w_SUBACK w_UNSUBSCRIBE w_UNSUBACK w_PINGREQ w_PINGRESP w__VALUES h0 n0 _ T21.heap _
    rw [e21]
    exact ⟨(by rw [own_v112_f4]), N16, K15⟩
-- body 4, variant 130
theorem own_v130_ef4 (m : MethodId)  : entryFrame m #[(.int (130 : Int32))] 4 = mkF m 0 #[.val (.int (130 : Int32)), .unset, .unset, .unset] [] := by first | (simp [entryFrame, mkF, argsToLocals, Value.category]; done) | rfl
def own_v130_f4 (w_SUBSCRIBE : Addr) : Addr := w_SUBSCRIBE
def own_v130_Q4 (Z : State) (w_CONNECT : Addr) (w_DISCONNECT : Addr) (k_w__VALUES : ClassId) (w_CONNACK : Addr) (w_PUBLISH : Addr) (w_PUBACK : Addr) (w_PUBREC : Addr) (w_PUBREL : Addr) (w_PUBCOMP : Addr) (w_SUBSCRIBE : Addr) (w_SUBACK : Addr) (w_UNSUBSCRIBE : Addr) (w_UNSUBACK : Addr) (w_PINGREQ : Addr) (w_PINGRESP : Addr) (w__VALUES : Addr) (h0 : Heap) (n0 : Nat) (v : Option Value) (h : Heap) (L : List Loc) : Prop := v = some (.ref (own_v130_f4 w_SUBSCRIBE)) ∧ Fr n0 L ∧ Keep h0 h []
set_option maxRecDepth 65536 in
set_option maxHeartbeats 40000000 in
theorem own_v130_rm4 (l : Launch) (Z : State) (a0 : Array Value) (hw : ∀ d ∈ tables_1, d.before a0 Z = true) (ws : List Jvm.Cond) (w_CONNECT : Addr) (w_DISCONNECT : Addr) (k_w__VALUES : ClassId) (w_CONNACK : Addr) (w_PUBLISH : Addr) (w_PUBACK : Addr) (w_PUBREC : Addr) (w_PUBREL : Addr) (w_PUBCOMP : Addr) (w_SUBSCRIBE : Addr) (w_SUBACK : Addr) (w_UNSUBSCRIBE : Addr) (w_UNSUBACK : Addr) (w_PINGREQ : Addr) (w_PINGRESP : Addr) (w__VALUES : Addr) (h0 : Heap) (n0 : Nat) (Z0 : n0 ≤ h0.size) (S_CONNECT : Sta Z h0 "com/example/castd/castd/mqtt/PacketType" "CONNECT" "Lcom/example/castd/castd/mqtt/PacketType;" (.ref w_CONNECT)) (F_code_w_CONNECT : Fld Z h0 w_CONNECT "com/example/castd/castd/mqtt/PacketType" "code" "I" (.int (1 : Int32))) (S_DISCONNECT : Sta Z h0 "com/example/castd/castd/mqtt/PacketType" "DISCONNECT" "Lcom/example/castd/castd/mqtt/PacketType;" (.ref w_DISCONNECT)) (F_code_w_DISCONNECT : Fld Z h0 w_DISCONNECT "com/example/castd/castd/mqtt/PacketType" "code" "I" (.int (14 : Int32))) (V_w__VALUES : Arv Z h0 w__VALUES k_w__VALUES (.object "com/example/castd/castd/mqtt/PacketType") (14 : Int32) [(.ref w_CONNECT), (.ref w_CONNACK), (.ref w_PUBLISH), (.ref w_PUBACK), (.ref w_PUBREC), (.ref w_PUBREL), (.ref w_PUBCOMP), (.ref w_SUBSCRIBE), (.ref w_SUBACK), (.ref w_UNSUBSCRIBE), (.ref w_UNSUBACK), (.ref w_PINGREQ), (.ref w_PINGRESP), (.ref w_DISCONNECT)] .null) (S__VALUES : Sta Z h0 "com/example/castd/castd/mqtt/PacketType" "$VALUES" "[Lcom/example/castd/castd/mqtt/PacketType;" (.ref w__VALUES)) (E_w__VALUES : Exa Z h0 w__VALUES "[Lcom/example/castd/castd/mqtt/PacketType;") (F_requiredFlags_w_SUBSCRIBE : Fld Z h0 w_SUBSCRIBE "com/example/castd/castd/mqtt/PacketType" "requiredFlags" "I" (.int (2 : Int32))) :
    MetFree l (⟨"com/example/castd/castd/mqtt/PacketType", "fromFirstByte", "(I)Lcom/example/castd/castd/mqtt/PacketType;"⟩ : MethodName) (head1 (Jvm.Cond.code (⟨"com/example/castd/castd/mqtt/PacketType", "fromFirstByte", "(I)Lcom/example/castd/castd/mqtt/PacketType;"⟩ : MethodName) prog_85_method_4_code 4 (some (.object "com/example/castd/castd/mqtt/PacketType")) :: ws) ({ frames := 2, cells := 1, slots := 14, locals := 25 } : Room)) (fun a U => a = #[(.int (130 : Int32))] ∧ Z.Warmed39 U.vm ∧ U.heap = h0) (fun _ _ _ _ _ => True) (fun _ U o U' => ∃ v L, o = .returned v ∧ own_v130_Q4 Z w_CONNECT w_DISCONNECT k_w__VALUES w_CONNACK w_PUBLISH w_PUBACK w_PUBREC w_PUBREL w_PUBCOMP w_SUBSCRIBE w_SUBACK w_UNSUBSCRIBE w_UNSUBACK w_PINGREQ w_PINGRESP w__VALUES h0 n0 v U'.heap L ∧ FrameEnd U o U' L ({ frames := 2, cells := 1, slots := 14, locals := 25 } : Room).cells ({ frames := 2, cells := 1, slots := 14, locals := 25 } : Room).slots) := by
  refine MetFree.of_bodySF (plainFor_of_name own_pn32) hisR ?_
  intro p e s m args below meth c s₁ Bd hml0 hP hK
  obtain ⟨rfl, hZ, hh⟩ := hP
  have hx := Bd.exec
  have hby := Bd.bytes
  have hml : c.maxLocals = 4 := hml0
  have hown : s.vm.findClass "com/example/castd/castd/mqtt/PacketType" = some m.cls := findClass_of_methodNamed Bd.named
  have hnm := (name_of_methodNamed Bd.named Bd.method).1
  have X0 : Stand p l e ({ frames := 2, cells := 1, slots := 14, locals := 25 } : Room) s m #[(.int (130 : Int32))] below meth c s₁ [] 0 0 := Stand.of_body Bd
  have e0 : s₁.heap = h0 := by rw [← hh, Bd.state]; rfl
  have N0 := Fr.nil n0
  have pre0 : ∀ t, Steps p.tables e below (s₁.setTop (mkF m 0 #[.val (.int (130 : Int32)), .unset, .unset, .unset] [])) t → Steps p.tables e below (s₁.setTop (entryFrame m #[(.int (130 : Int32))] 4)) t := fun t k => castTop (own_v130_ef4 m ) k
  obtain ⟨T1, X1, e1, st1⟩ := getS2 X0 hx hZ hown (host := "") (Or.inl (hw _ (List.mem_of_getElem? (i := 23) rfl))) Via.refl e0 S_CONNECT (g := (mkF m 8 #[.val (.int (130 : Int32)), .val (.int (8 : Int32)), .unset, .unset] [(.int (8 : Int32))])) rfl (hb hby own_d4_8)
  obtain ⟨T2, X2, e2, st2⟩ := getF X1 hx hZ hown (host := "") (Or.inl (hw _ (List.mem_of_getElem? (i := 15) rfl))) Via.refl e1 F_code_w_CONNECT (g := (mkF m 11 #[.val (.int (130 : Int32)), .val (.int (8 : Int32)), .unset, .unset] [(.ref w_CONNECT), (.int (8 : Int32))])) rfl rfl (hb hby own_d4_11)
  obtain ⟨T3, X3, e3, st3⟩ := getS2 X2 hx hZ hown (host := "") (Or.inl (hw _ (List.mem_of_getElem? (i := 24) rfl))) Via.refl e2 S_DISCONNECT (g := (mkF m 18 #[.val (.int (130 : Int32)), .val (.int (8 : Int32)), .unset, .unset] [(.int (8 : Int32))])) rfl (hb hby own_d4_18)
  obtain ⟨T4, X4, e4, st4⟩ := getF X3 hx hZ hown (host := "") (Or.inl (hw _ (List.mem_of_getElem? (i := 15) rfl))) Via.refl e3 F_code_w_DISCONNECT (g := (mkF m 21 #[.val (.int (130 : Int32)), .val (.int (8 : Int32)), .unset, .unset] [(.ref w_DISCONNECT), (.int (8 : Int32))])) rfl rfl (hb hby own_d4_21)
  obtain ⟨v5, _, ⟨T5, L5, k5, n5⟩, -, X5, ⟨Lc5, hQ5, l5, y5, z5⟩, st5⟩ := Jvm.LawKit.callS X4 hx (y := (⟨"com/example/castd/castd/mqtt/PacketType", "values", "()[Lcom/example/castd/castd/mqtt/PacketType;"⟩ : MethodName)) hown (mvT hZ (hw _ (List.mem_of_getElem? (i := 26) rfl))) (mvT hZ (hw _ (List.mem_of_getElem? (i := 27) rfl))) (mvT hZ (hw _ (List.mem_of_getElem? (i := 6) rfl))) (mvT hZ (hw _ (List.mem_of_getElem? (i := 28) rfl))) (by decide) (backOf (W := 0) (own_rm5 l Z a0 hw [] k_w__VALUES w_CONNECT w_CONNACK w_PUBLISH w_PUBACK w_PUBREC w_PUBREL w_PUBCOMP w_SUBSCRIBE w_SUBACK w_UNSUBSCRIBE w_UNSUBACK w_PINGREQ w_PINGRESP w_DISCONNECT w__VALUES h0 n0 Z0 V_w__VALUES S__VALUES E_w__VALUES) hZ (hw _ (List.mem_of_getElem? (i := 28) rfl)) (hw _ (List.mem_of_getElem? (i := 6) rfl)) (by decide) (by decide)) (g := (mkF m 41 #[.val (.int (130 : Int32)), .val (.int (8 : Int32)), .unset, .unset] [])) rfl (by rw [hml]; rfl) (argsL := []) (rest := []) (lenOf own_pd82 rfl) rfl (by show 2 * 0 + _ ≤ _; exact Nat.le_of_eq rfl) (hb hby own_d4_41) (fun _ _ => ⟨rfl, e4, (by decide : 0 + 1 ≤ _), (by decide : 0 + 14 ≤ _)⟩)
  dsimp only [Pt.U, Pt.locs, Pt.cells, Pt.slots] at X5 l5 y5 z5 st5 hQ5
  subst l5 y5 z5
  obtain ⟨r5, rfl, N5q, K5, hr5, Q5_0, Q5_1⟩ := hQ5
  have ne_w_CONNECT_r5 : w_CONNECT ≠ r5 := Nat.ne_of_lt (Nat.lt_of_lt_of_le F_code_w_CONNECT.lt hr5)
  have ne_w_DISCONNECT_r5 : w_DISCONNECT ≠ r5 := Nat.ne_of_lt (Nat.lt_of_lt_of_le F_code_w_DISCONNECT.lt hr5)
  have ne_w__VALUES_r5 : w__VALUES ≠ r5 := Nat.ne_of_lt (Nat.lt_of_lt_of_le V_w__VALUES.lt hr5)
  have ne_w_SUBSCRIBE_r5 : w_SUBSCRIBE ≠ r5 := Nat.ne_of_lt (Nat.lt_of_lt_of_le F_requiredFlags_w_SUBSCRIBE.lt hr5)
  have g_r5 : n0 ≤ r5 := Nat.le_trans Z0 hr5
  have sz_r5 : h0.size ≤ r5 := hr5
  have f6 := own_staKeep S_CONNECT K5
  have f7 := F_code_w_CONNECT.keep K5 nin0
  have f8 := own_staKeep S_DISCONNECT K5
  have f9 := F_code_w_DISCONNECT.keep K5 nin0
  have f10 := V_w__VALUES.keep K5 nin0
  have f11 := own_staKeep S__VALUES K5
  have f12 := E_w__VALUES.keep K5
  have f13 := F_requiredFlags_w_SUBSCRIBE.keep K5 nin0
  have Z14 := Nat.le_trans Z0 K5.1
  have K15 : Keep h0 T5.heap [] := Keep.trans (Keep.refl h0 _) K5 all0
  have N16 := Fr.app N0 N5q
  obtain ⟨T17, X17, e17, st17⟩ := getS2 X5 hx hZ hown (host := "") (Or.inl (hw _ (List.mem_of_getElem? (i := 23) rfl))) Via.refl rfl f6 (g := (mkF m 45 #[.val (.int (130 : Int32)), .val (.int (8 : Int32)), .unset, .unset] [(.int (8 : Int32)), (.ref r5)])) rfl (hb hby own_d4_45)
  obtain ⟨T18, X18, e18, st18⟩ := getF X17 hx hZ hown (host := "") (Or.inl (hw _ (List.mem_of_getElem? (i := 15) rfl))) Via.refl e17 f7 (g := (mkF m 48 #[.val (.int (130 : Int32)), .val (.int (8 : Int32)), .unset, .unset] [(.ref w_CONNECT), (.int (8 : Int32)), (.ref r5)])) rfl rfl (hb hby own_d4_48)
  obtain ⟨cl19, Ar19, qk19, Sz19, Nn19, Hs19, Gf19⟩ := id Q5_0
  have hin19 : ¬ ((7 : Int32) < 0 ∨ cl19.slots.size ≤ ((7 : Int32)).toNatClampNeg) := inb_of Sz19 ⟨by decide, by decide⟩
  have hat19 : cl19.slots[((7 : Int32)).toNatClampNeg]? = some (.ref w_SUBSCRIBE) := Has.at Hs19 hin19 rfl
  obtain ⟨T20, X20, e20, st20⟩ := getF X18 hx hZ hown (host := "") (Or.inl (hw _ (List.mem_of_getElem? (i := 13) rfl))) Via.refl e18 f13 (g := (mkF m 60 #[.val (.int (130 : Int32)), .val (.int (8 : Int32)), .val (.ref w_SUBSCRIBE), .val (.int (2 : Int32))] [(.ref w_SUBSCRIBE)])) rfl rfl (hb hby own_d4_60)
  obtain ⟨T21, X21, e21, st21⟩ := getF X20 hx hZ hown (host := "") (Or.inl (hw _ (List.mem_of_getElem? (i := 13) rfl))) Via.refl e20 f13 (g := (mkF m 69 #[.val (.int (130 : Int32)), .val (.int (8 : Int32)), .val (.ref w_SUBSCRIBE), .val (.int (2 : Int32))] [(.ref w_SUBSCRIBE), (.int (2 : Int32))])) rfl rfl (hb hby own_d4_69)
  obtain ⟨fs, hr, hrun, hended, hW, hsame⟩ := X21.leave (v := some (.ref w_SUBSCRIBE)) (fun h => by rw [Bd.returns] at h; cases h)
  refine ⟨_, _, pre0 _ ?_, hrun, hended, _, _, rfl, ?_, ⟨_, rfl⟩, hW, hsame.mono (by decide) (by decide)⟩
  · show Steps p.tables e below (s₁.setTop (mkF m 0 #[.val (.int (130 : Int32)), .unset, .unset, .unset] [])) _
    refine XS.iloadN X0.here hx rfl (hb hby own_d4_0) rfl ?_
    show Steps p.tables e below (s₁.setTop (mkF m 1 #[.val (.int (130 : Int32)), .unset, .unset, .unset] [(.int (130 : Int32))])) _
    refine XS.iconst X0.here hx rfl (hb hby own_d4_1) ?_
    show Steps p.tables e below (s₁.setTop (mkF m 2 #[.val (.int (130 : Int32)), .unset, .unset, .unset] [(.int (4 : Int32)), (.int (130 : Int32))])) _
    refine XS.ishr X0.here hx rfl (hb hby own_d4_2) rfl ?_
    show Steps p.tables e below (s₁.setTop (mkF m 3 #[.val (.int (130 : Int32)), .unset, .unset, .unset] [(.int (8 : Int32))])) _
    refine XS.bipush X0.here hx rfl (hb hby own_d4_3) ?_
    show Steps p.tables e below (s₁.setTop (mkF m 5 #[.val (.int (130 : Int32)), .unset, .unset, .unset] [(.int (15 : Int32)), (.int (8 : Int32))])) _
    refine XS.iand X0.here hx rfl (hb hby own_d4_5) rfl ?_
    show Steps p.tables e below (s₁.setTop (mkF m 6 #[.val (.int (130 : Int32)), .unset, .unset, .unset] [(.int (8 : Int32))])) _
    refine XS.istoreN X0.here hx rfl (hb hby own_d4_6) rfl (l' := #[.val (.int (130 : Int32)), .val (.int (8 : Int32)), .unset, .unset]) rfl ?_
    show Steps p.tables e below (s₁.setTop (mkF m 7 #[.val (.int (130 : Int32)), .val (.int (8 : Int32)), .unset, .unset] [])) _
    refine XS.iloadN X0.here hx rfl (hb hby own_d4_7) rfl ?_
    show Steps p.tables e below (s₁.setTop (mkF m 8 #[.val (.int (130 : Int32)), .val (.int (8 : Int32)), .unset, .unset] [(.int (8 : Int32))])) _
    refine st1 _ ?_
    show Steps p.tables e below (T1.setTop (mkF m 11 #[.val (.int (130 : Int32)), .val (.int (8 : Int32)), .unset, .unset] [(.ref w_CONNECT), (.int (8 : Int32))])) _
    refine st2 _ ?_
    show Steps p.tables e below (T2.setTop (mkF m 14 #[.val (.int (130 : Int32)), .val (.int (8 : Int32)), .unset, .unset] [(.int (1 : Int32)), (.int (8 : Int32))])) _
    refine XS.icmpNo X2.here hx rfl (hb hby own_d4_14) rfl (flt (by decide : ¬ ((8 : Int32) < (1 : Int32)))).1 ?_
    show Steps p.tables e below (T2.setTop (mkF m 17 #[.val (.int (130 : Int32)), .val (.int (8 : Int32)), .unset, .unset] [])) _
    refine XS.iloadN X2.here hx rfl (hb hby own_d4_17) rfl ?_
    show Steps p.tables e below (T2.setTop (mkF m 18 #[.val (.int (130 : Int32)), .val (.int (8 : Int32)), .unset, .unset] [(.int (8 : Int32))])) _
    refine st3 _ ?_
    show Steps p.tables e below (T3.setTop (mkF m 21 #[.val (.int (130 : Int32)), .val (.int (8 : Int32)), .unset, .unset] [(.ref w_DISCONNECT), (.int (8 : Int32))])) _
    refine st4 _ ?_
    show Steps p.tables e below (T4.setTop (mkF m 24 #[.val (.int (130 : Int32)), .val (.int (8 : Int32)), .unset, .unset] [(.int (14 : Int32)), (.int (8 : Int32))])) _
    refine XS.icmpYes X4.here hx rfl (pc0 := 24) (pc' := 41) rfl (hb hby own_d4_24) rfl (flt (by decide : ¬ ((14 : Int32) < (8 : Int32)))).2.2.2 (by decide) (by decide) ?_
    show Steps p.tables e below (T4.setTop (mkF m 41 #[.val (.int (130 : Int32)), .val (.int (8 : Int32)), .unset, .unset] [])) _
    refine st5 _ ?_
    show Steps p.tables e below (T5.setTop (mkF m 44 #[.val (.int (130 : Int32)), .val (.int (8 : Int32)), .unset, .unset] [(.ref r5)])) _
    refine XS.iloadN X5.here hx rfl (hb hby own_d4_44) rfl ?_
    show Steps p.tables e below (T5.setTop (mkF m 45 #[.val (.int (130 : Int32)), .val (.int (8 : Int32)), .unset, .unset] [(.int (8 : Int32)), (.ref r5)])) _
    refine st17 _ ?_
    show Steps p.tables e below (T17.setTop (mkF m 48 #[.val (.int (130 : Int32)), .val (.int (8 : Int32)), .unset, .unset] [(.ref w_CONNECT), (.int (8 : Int32)), (.ref r5)])) _
    refine st18 _ ?_
    show Steps p.tables e below (T18.setTop (mkF m 51 #[.val (.int (130 : Int32)), .val (.int (8 : Int32)), .unset, .unset] [(.int (1 : Int32)), (.int (8 : Int32)), (.ref r5)])) _
    refine XS.isub X18.here hx rfl (hb hby own_d4_51) rfl ?_
    show Steps p.tables e below (T18.setTop (mkF m 52 #[.val (.int (130 : Int32)), .val (.int (8 : Int32)), .unset, .unset] [(.int (7 : Int32)), (.ref r5)])) _
    refine X18.aaload hx (j := (7 : Int32)) (v := (.ref w_SUBSCRIBE)) (by rw [e18]; exact Ar19.1) (State.isArrayOf_alike hZ.alike Ar19.2.1) rfl Ar19.2.2 hin19 hat19 (g := (mkF m 52 #[.val (.int (130 : Int32)), .val (.int (8 : Int32)), .unset, .unset] [(.int (7 : Int32)), (.ref r5)])) rfl rfl (hb hby own_d4_52) _ ?_
    show Steps p.tables e below (T18.setTop (mkF m 53 #[.val (.int (130 : Int32)), .val (.int (8 : Int32)), .unset, .unset] [(.ref w_SUBSCRIBE)])) _
    refine XS.astoreN X18.here hx rfl (hb hby own_d4_53) rfl rfl (l' := #[.val (.int (130 : Int32)), .val (.int (8 : Int32)), .val (.ref w_SUBSCRIBE), .unset]) rfl ?_
    show Steps p.tables e below (T18.setTop (mkF m 54 #[.val (.int (130 : Int32)), .val (.int (8 : Int32)), .val (.ref w_SUBSCRIBE), .unset] [])) _
    refine XS.iloadN X18.here hx rfl (hb hby own_d4_54) rfl ?_
    show Steps p.tables e below (T18.setTop (mkF m 55 #[.val (.int (130 : Int32)), .val (.int (8 : Int32)), .val (.ref w_SUBSCRIBE), .unset] [(.int (130 : Int32))])) _
    refine XS.bipush X18.here hx rfl (hb hby own_d4_55) ?_
    show Steps p.tables e below (T18.setTop (mkF m 57 #[.val (.int (130 : Int32)), .val (.int (8 : Int32)), .val (.ref w_SUBSCRIBE), .unset] [(.int (15 : Int32)), (.int (130 : Int32))])) _
    refine XS.iand X18.here hx rfl (hb hby own_d4_57) rfl ?_
    show Steps p.tables e below (T18.setTop (mkF m 58 #[.val (.int (130 : Int32)), .val (.int (8 : Int32)), .val (.ref w_SUBSCRIBE), .unset] [(.int (2 : Int32))])) _
    refine XS.istoreN X18.here hx rfl (hb hby own_d4_58) rfl (l' := #[.val (.int (130 : Int32)), .val (.int (8 : Int32)), .val (.ref w_SUBSCRIBE), .val (.int (2 : Int32))]) rfl ?_
    show Steps p.tables e below (T18.setTop (mkF m 59 #[.val (.int (130 : Int32)), .val (.int (8 : Int32)), .val (.ref w_SUBSCRIBE), .val (.int (2 : Int32))] [])) _
    refine XS.aloadN X18.here hx rfl (hb hby own_d4_59) rfl rfl ?_
    show Steps p.tables e below (T18.setTop (mkF m 60 #[.val (.int (130 : Int32)), .val (.int (8 : Int32)), .val (.ref w_SUBSCRIBE), .val (.int (2 : Int32))] [(.ref w_SUBSCRIBE)])) _
    refine st20 _ ?_
    show Steps p.tables e below (T20.setTop (mkF m 63 #[.val (.int (130 : Int32)), .val (.int (8 : Int32)), .val (.ref w_SUBSCRIBE), .val (.int (2 : Int32))] [(.int (2 : Int32))])) _
    refine XS.iconst X20.here hx rfl (hb hby own_d4_63) ?_
    show Steps p.tables e below (T20.setTop (mkF m 64 #[.val (.int (130 : Int32)), .val (.int (8 : Int32)), .val (.ref w_SUBSCRIBE), .val (.int (2 : Int32))] [(.int (-1 : Int32)), (.int (2 : Int32))])) _
    refine XS.icmpNo X20.here hx rfl (hb hby own_d4_64) rfl (feq (by decide : ¬ ((2 : Int32) = (-1 : Int32)))).1 ?_
    show Steps p.tables e below (T20.setTop (mkF m 67 #[.val (.int (130 : Int32)), .val (.int (8 : Int32)), .val (.ref w_SUBSCRIBE), .val (.int (2 : Int32))] [])) _
    refine XS.iloadN X20.here hx rfl (hb hby own_d4_67) rfl ?_
    show Steps p.tables e below (T20.setTop (mkF m 68 #[.val (.int (130 : Int32)), .val (.int (8 : Int32)), .val (.ref w_SUBSCRIBE), .val (.int (2 : Int32))] [(.int (2 : Int32))])) _
    refine XS.aloadN X20.here hx rfl (hb hby own_d4_68) rfl rfl ?_
    show Steps p.tables e below (T20.setTop (mkF m 69 #[.val (.int (130 : Int32)), .val (.int (8 : Int32)), .val (.ref w_SUBSCRIBE), .val (.int (2 : Int32))] [(.ref w_SUBSCRIBE), (.int (2 : Int32))])) _
    refine st21 _ ?_
    show Steps p.tables e below (T21.setTop (mkF m 72 #[.val (.int (130 : Int32)), .val (.int (8 : Int32)), .val (.ref w_SUBSCRIBE), .val (.int (2 : Int32))] [(.int (2 : Int32)), (.int (2 : Int32))])) _
    refine XS.icmpYes X21.here hx rfl (pc0 := 72) (pc' := 97) rfl (hb hby own_d4_72) rfl (teq (by decide : (2 : Int32) = (2 : Int32))).1 (by decide) (by decide) ?_
    show Steps p.tables e below (T21.setTop (mkF m 97 #[.val (.int (130 : Int32)), .val (.int (8 : Int32)), .val (.ref w_SUBSCRIBE), .val (.int (2 : Int32))] [])) _
    refine XS.aloadN X21.here hx rfl (hb hby own_d4_97) rfl rfl ?_
    show Steps p.tables e below (T21.setTop (mkF m 98 #[.val (.int (130 : Int32)), .val (.int (8 : Int32)), .val (.ref w_SUBSCRIBE), .val (.int (2 : Int32))] [(.ref w_SUBSCRIBE)])) _
    jvm_step X21.here [X21.here.top, hx, (hb hby own_d4_98), X21.method', Bd.returns, Value.isRef, FieldType.isReference]
    first | (intro acts; rw [hr _ acts rfl rfl rfl]) | rw [hr _ _ rfl rfl rfl]
    exact Steps.refl _
  · show own_v130_Q4 Z w_CONNECT w_DISCONNECT k_w__VALUES w_CONNACK w_PUBLISH w_PUBACK w_PUBREC w_PUBREL w_PUBCOMP w_SUBSCRIBE w_SUBACK w_UNSUBSCRIBE w_UNSUBACK w_PINGREQ w_PINGRESP w__VALUES h0 n0 _ T21.heap _
    rw [e21]
    exact ⟨(by rw [own_v130_f4]), N16, K15⟩
-- body 4, variant 144
theorem own_v144_ef4 (m : MethodId)  : entryFrame m #[(.int (144 : Int32))] 4 = mkF m 0 #[.val (.int (144 : Int32)), .unset, .unset, .unset] [] := by first | (simp [entryFrame, mkF, argsToLocals, Value.category]; done) | rfl
def own_v144_f4 (w_SUBACK : Addr) : Addr := w_SUBACK
def own_v144_Q4 (Z : State) (w_CONNECT : Addr) (w_DISCONNECT : Addr) (k_w__VALUES : ClassId) (w_CONNACK : Addr) (w_PUBLISH : Addr) (w_PUBACK : Addr) (w_PUBREC : Addr) (w_PUBREL : Addr) (w_PUBCOMP : Addr) (w_SUBSCRIBE : Addr) (w_SUBACK : Addr) (w_UNSUBSCRIBE : Addr) (w_UNSUBACK : Addr) (w_PINGREQ : Addr) (w_PINGRESP : Addr) (w__VALUES : Addr) (h0 : Heap) (n0 : Nat) (v : Option Value) (h : Heap) (L : List Loc) : Prop := v = some (.ref (own_v144_f4 w_SUBACK)) ∧ Fr n0 L ∧ Keep h0 h []
set_option maxRecDepth 65536 in
set_option maxHeartbeats 40000000 in
theorem own_v144_rm4 (l : Launch) (Z : State) (a0 : Array Value) (hw : ∀ d ∈ tables_1, d.before a0 Z = true) (ws : List Jvm.Cond) (w_CONNECT : Addr) (w_DISCONNECT : Addr) (k_w__VALUES : ClassId) (w_CONNACK : Addr) (w_PUBLISH : Addr) (w_PUBACK : Addr) (w_PUBREC : Addr) (w_PUBREL : Addr) (w_PUBCOMP : Addr) (w_SUBSCRIBE : Addr) (w_SUBACK : Addr) (w_UNSUBSCRIBE : Addr) (w_UNSUBACK : Addr) (w_PINGREQ : Addr) (w_PINGRESP : Addr) (w__VALUES : Addr) (h0 : Heap) (n0 : Nat) (Z0 : n0 ≤ h0.size) (S_CONNECT : Sta Z h0 "com/example/castd/castd/mqtt/PacketType" "CONNECT" "Lcom/example/castd/castd/mqtt/PacketType;" (.ref w_CONNECT)) (F_code_w_CONNECT : Fld Z h0 w_CONNECT "com/example/castd/castd/mqtt/PacketType" "code" "I" (.int (1 : Int32))) (S_DISCONNECT : Sta Z h0 "com/example/castd/castd/mqtt/PacketType" "DISCONNECT" "Lcom/example/castd/castd/mqtt/PacketType;" (.ref w_DISCONNECT)) (F_code_w_DISCONNECT : Fld Z h0 w_DISCONNECT "com/example/castd/castd/mqtt/PacketType" "code" "I" (.int (14 : Int32))) (V_w__VALUES : Arv Z h0 w__VALUES k_w__VALUES (.object "com/example/castd/castd/mqtt/PacketType") (14 : Int32) [(.ref w_CONNECT), (.ref w_CONNACK), (.ref w_PUBLISH), (.ref w_PUBACK), (.ref w_PUBREC), (.ref w_PUBREL), (.ref w_PUBCOMP), (.ref w_SUBSCRIBE), (.ref w_SUBACK), (.ref w_UNSUBSCRIBE), (.ref w_UNSUBACK), (.ref w_PINGREQ), (.ref w_PINGRESP), (.ref w_DISCONNECT)] .null) (S__VALUES : Sta Z h0 "com/example/castd/castd/mqtt/PacketType" "$VALUES" "[Lcom/example/castd/castd/mqtt/PacketType;" (.ref w__VALUES)) (E_w__VALUES : Exa Z h0 w__VALUES "[Lcom/example/castd/castd/mqtt/PacketType;") (F_requiredFlags_w_SUBACK : Fld Z h0 w_SUBACK "com/example/castd/castd/mqtt/PacketType" "requiredFlags" "I" (.int (0 : Int32))) :
    MetFree l (⟨"com/example/castd/castd/mqtt/PacketType", "fromFirstByte", "(I)Lcom/example/castd/castd/mqtt/PacketType;"⟩ : MethodName) (head1 (Jvm.Cond.code (⟨"com/example/castd/castd/mqtt/PacketType", "fromFirstByte", "(I)Lcom/example/castd/castd/mqtt/PacketType;"⟩ : MethodName) prog_85_method_4_code 4 (some (.object "com/example/castd/castd/mqtt/PacketType")) :: ws) ({ frames := 2, cells := 1, slots := 14, locals := 25 } : Room)) (fun a U => a = #[(.int (144 : Int32))] ∧ Z.Warmed39 U.vm ∧ U.heap = h0) (fun _ _ _ _ _ => True) (fun _ U o U' => ∃ v L, o = .returned v ∧ own_v144_Q4 Z w_CONNECT w_DISCONNECT k_w__VALUES w_CONNACK w_PUBLISH w_PUBACK w_PUBREC w_PUBREL w_PUBCOMP w_SUBSCRIBE w_SUBACK w_UNSUBSCRIBE w_UNSUBACK w_PINGREQ w_PINGRESP w__VALUES h0 n0 v U'.heap L ∧ FrameEnd U o U' L ({ frames := 2, cells := 1, slots := 14, locals := 25 } : Room).cells ({ frames := 2, cells := 1, slots := 14, locals := 25 } : Room).slots) := by
  refine MetFree.of_bodySF (plainFor_of_name own_pn32) hisR ?_
  intro p e s m args below meth c s₁ Bd hml0 hP hK
  obtain ⟨rfl, hZ, hh⟩ := hP
  have hx := Bd.exec
  have hby := Bd.bytes
  have hml : c.maxLocals = 4 := hml0
  have hown : s.vm.findClass "com/example/castd/castd/mqtt/PacketType" = some m.cls := findClass_of_methodNamed Bd.named
  have hnm := (name_of_methodNamed Bd.named Bd.method).1
  have X0 : Stand p l e ({ frames := 2, cells := 1, slots := 14, locals := 25 } : Room) s m #[(.int (144 : Int32))] below meth c s₁ [] 0 0 := Stand.of_body Bd
  have e0 : s₁.heap = h0 := by rw [← hh, Bd.state]; rfl
  have N0 := Fr.nil n0
  have pre0 : ∀ t, Steps p.tables e below (s₁.setTop (mkF m 0 #[.val (.int (144 : Int32)), .unset, .unset, .unset] [])) t → Steps p.tables e below (s₁.setTop (entryFrame m #[(.int (144 : Int32))] 4)) t := fun t k => castTop (own_v144_ef4 m ) k
  obtain ⟨T1, X1, e1, st1⟩ := getS2 X0 hx hZ hown (host := "") (Or.inl (hw _ (List.mem_of_getElem? (i := 23) rfl))) Via.refl e0 S_CONNECT (g := (mkF m 8 #[.val (.int (144 : Int32)), .val (.int (9 : Int32)), .unset, .unset] [(.int (9 : Int32))])) rfl (hb hby own_d4_8)
  obtain ⟨T2, X2, e2, st2⟩ := getF X1 hx hZ hown (host := "") (Or.inl (hw _ (List.mem_of_getElem? (i := 15) rfl))) Via.refl e1 F_code_w_CONNECT (g := (mkF m 11 #[.val (.int (144 : Int32)), .val (.int (9 : Int32)), .unset, .unset] [(.ref w_CONNECT), (.int (9 : Int32))])) rfl rfl (hb hby own_d4_11)
  obtain ⟨T3, X3, e3, st3⟩ := getS2 X2 hx hZ hown (host := "") (Or.inl (hw _ (List.mem_of_getElem? (i := 24) rfl))) Via.refl e2 S_DISCONNECT (g := (mkF m 18 #[.val (.int (144 : Int32)), .val (.int (9 : Int32)), .unset, .unset] [(.int (9 : Int32))])) rfl (hb hby own_d4_18)
  obtain ⟨T4, X4, e4, st4⟩ := getF X3 hx hZ hown (host := "") (Or.inl (hw _ (List.mem_of_getElem? (i := 15) rfl))) Via.refl e3 F_code_w_DISCONNECT (g := (mkF m 21 #[.val (.int (144 : Int32)), .val (.int (9 : Int32)), .unset, .unset] [(.ref w_DISCONNECT), (.int (9 : Int32))])) rfl rfl (hb hby own_d4_21)
  obtain ⟨v5, _, ⟨T5, L5, k5, n5⟩, -, X5, ⟨Lc5, hQ5, l5, y5, z5⟩, st5⟩ := Jvm.LawKit.callS X4 hx (y := (⟨"com/example/castd/castd/mqtt/PacketType", "values", "()[Lcom/example/castd/castd/mqtt/PacketType;"⟩ : MethodName)) hown (mvT hZ (hw _ (List.mem_of_getElem? (i := 26) rfl))) (mvT hZ (hw _ (List.mem_of_getElem? (i := 27) rfl))) (mvT hZ (hw _ (List.mem_of_getElem? (i := 6) rfl))) (mvT hZ (hw _ (List.mem_of_getElem? (i := 28) rfl))) (by decide) (backOf (W := 0) (own_rm5 l Z a0 hw [] k_w__VALUES w_CONNECT w_CONNACK w_PUBLISH w_PUBACK w_PUBREC w_PUBREL w_PUBCOMP w_SUBSCRIBE w_SUBACK w_UNSUBSCRIBE w_UNSUBACK w_PINGREQ w_PINGRESP w_DISCONNECT w__VALUES h0 n0 Z0 V_w__VALUES S__VALUES E_w__VALUES) hZ (hw _ (List.mem_of_getElem? (i := 28) rfl)) (hw _ (List.mem_of_getElem? (i := 6) rfl)) (by decide) (by decide)) (g := (mkF m 41 #[.val (.int (144 : Int32)), .val (.int (9 : Int32)), .unset, .unset] [])) rfl (by rw [hml]; rfl) (argsL := []) (rest := []) (lenOf own_pd82 rfl) rfl (by show 2 * 0 + _ ≤ _; exact Nat.le_of_eq rfl) (hb hby own_d4_41) (fun _ _ => ⟨rfl, e4, (by decide : 0 + 1 ≤ _), (by decide : 0 + 14 ≤ _)⟩)
  dsimp only [Pt.U, Pt.locs, Pt.cells, Pt.slots] at X5 l5 y5 z5 st5 hQ5
  subst l5 y5 z5
  obtain ⟨r5, rfl, N5q, K5, hr5, Q5_0, Q5_1⟩ := hQ5
  have ne_w_CONNECT_r5 : w_CONNECT ≠ r5 := Nat.ne_of_lt (Nat.lt_of_lt_of_le F_code_w_CONNECT.lt hr5)
  have ne_w_DISCONNECT_r5 : w_DISCONNECT ≠ r5 := Nat.ne_of_lt (Nat.lt_of_lt_of_le F_code_w_DISCONNECT.lt hr5)
  have ne_w__VALUES_r5 : w__VALUES ≠ r5 := Nat.ne_of_lt (Nat.lt_of_lt_of_le V_w__VALUES.lt hr5)
  have ne_w_SUBACK_r5 : w_SUBACK ≠ r5 := Nat.ne_of_lt (Nat.lt_of_lt_of_le F_requiredFlags_w_SUBACK.lt hr5)
  have g_r5 : n0 ≤ r5 := Nat.le_trans Z0 hr5
  have sz_r5 : h0.size ≤ r5 := hr5
  have f6 := own_staKeep S_CONNECT K5
  have f7 := F_code_w_CONNECT.keep K5 nin0
  have f8 := own_staKeep S_DISCONNECT K5
  have f9 := F_code_w_DISCONNECT.keep K5 nin0
  have f10 := V_w__VALUES.keep K5 nin0
  have f11 := own_staKeep S__VALUES K5
  have f12 := E_w__VALUES.keep K5
  have f13 := F_requiredFlags_w_SUBACK.keep K5 nin0
  have Z14 := Nat.le_trans Z0 K5.1
  have K15 : Keep h0 T5.heap [] := Keep.trans (Keep.refl h0 _) K5 all0
  have N16 := Fr.app N0 N5q
  obtain ⟨T17, X17, e17, st17⟩ := getS2 X5 hx hZ hown (host := "") (Or.inl (hw _ (List.mem_of_getElem? (i := 23) rfl))) Via.refl rfl f6 (g := (mkF m 45 #[.val (.int (144 : Int32)), .val (.int (9 : Int32)), .unset, .unset] [(.int (9 : Int32)), (.ref r5)])) rfl (hb hby own_d4_45)
  obtain ⟨T18, X18, e18, st18⟩ := getF X17 hx hZ hown (host := "") (Or.inl (hw _ (List.mem_of_getElem? (i := 15) rfl))) Via.refl e17 f7 (g := (mkF m 48 #[.val (.int (144 : Int32)), .val (.int (9 : Int32)), .unset, .unset] [(.ref w_CONNECT), (.int (9 : Int32)), (.ref r5)])) rfl rfl (hb hby own_d4_48)
  obtain ⟨cl19, Ar19, qk19, Sz19, Nn19, Hs19, Gf19⟩ := id Q5_0
  have hin19 : ¬ ((8 : Int32) < 0 ∨ cl19.slots.size ≤ ((8 : Int32)).toNatClampNeg) := inb_of Sz19 ⟨by decide, by decide⟩
  have hat19 : cl19.slots[((8 : Int32)).toNatClampNeg]? = some (.ref w_SUBACK) := Has.at Hs19 hin19 rfl
  obtain ⟨T20, X20, e20, st20⟩ := getF X18 hx hZ hown (host := "") (Or.inl (hw _ (List.mem_of_getElem? (i := 13) rfl))) Via.refl e18 f13 (g := (mkF m 60 #[.val (.int (144 : Int32)), .val (.int (9 : Int32)), .val (.ref w_SUBACK), .val (.int (0 : Int32))] [(.ref w_SUBACK)])) rfl rfl (hb hby own_d4_60)
  obtain ⟨T21, X21, e21, st21⟩ := getF X20 hx hZ hown (host := "") (Or.inl (hw _ (List.mem_of_getElem? (i := 13) rfl))) Via.refl e20 f13 (g := (mkF m 69 #[.val (.int (144 : Int32)), .val (.int (9 : Int32)), .val (.ref w_SUBACK), .val (.int (0 : Int32))] [(.ref w_SUBACK), (.int (0 : Int32))])) rfl rfl (hb hby own_d4_69)
  obtain ⟨fs, hr, hrun, hended, hW, hsame⟩ := X21.leave (v := some (.ref w_SUBACK)) (fun h => by rw [Bd.returns] at h; cases h)
  refine ⟨_, _, pre0 _ ?_, hrun, hended, _, _, rfl, ?_, ⟨_, rfl⟩, hW, hsame.mono (by decide) (by decide)⟩
  · show Steps p.tables e below (s₁.setTop (mkF m 0 #[.val (.int (144 : Int32)), .unset, .unset, .unset] [])) _
    refine XS.iloadN X0.here hx rfl (hb hby own_d4_0) rfl ?_
    show Steps p.tables e below (s₁.setTop (mkF m 1 #[.val (.int (144 : Int32)), .unset, .unset, .unset] [(.int (144 : Int32))])) _
    refine XS.iconst X0.here hx rfl (hb hby own_d4_1) ?_
    show Steps p.tables e below (s₁.setTop (mkF m 2 #[.val (.int (144 : Int32)), .unset, .unset, .unset] [(.int (4 : Int32)), (.int (144 : Int32))])) _
    refine XS.ishr X0.here hx rfl (hb hby own_d4_2) rfl ?_
    show Steps p.tables e below (s₁.setTop (mkF m 3 #[.val (.int (144 : Int32)), .unset, .unset, .unset] [(.int (9 : Int32))])) _
    refine XS.bipush X0.here hx rfl (hb hby own_d4_3) ?_
    show Steps p.tables e below (s₁.setTop (mkF m 5 #[.val (.int (144 : Int32)), .unset, .unset, .unset] [(.int (15 : Int32)), (.int (9 : Int32))])) _
    refine XS.iand X0.here hx rfl (hb hby own_d4_5) rfl ?_
    show Steps p.tables e below (s₁.setTop (mkF m 6 #[.val (.int (144 : Int32)), .unset, .unset, .unset] [(.int (9 : Int32))])) _
    refine XS.istoreN X0.here hx rfl (hb hby own_d4_6) rfl (l' := #[.val (.int (144 : Int32)), .val (.int (9 : Int32)), .unset, .unset]) rfl ?_
    show Steps p.tables e below (s₁.setTop (mkF m 7 #[.val (.int (144 : Int32)), .val (.int (9 : Int32)), .unset, .unset] [])) _
    refine XS.iloadN X0.here hx rfl (hb hby own_d4_7) rfl ?_
    show Steps p.tables e below (s₁.setTop (mkF m 8 #[.val (.int (144 : Int32)), .val (.int (9 : Int32)), .unset, .unset] [(.int (9 : Int32))])) _
    refine st1 _ ?_
    show Steps p.tables e below (T1.setTop (mkF m 11 #[.val (.int (144 : Int32)), .val (.int (9 : Int32)), .unset, .unset] [(.ref w_CONNECT), (.int (9 : Int32))])) _
    refine st2 _ ?_
    show Steps p.tables e below (T2.setTop (mkF m 14 #[.val (.int (144 : Int32)), .val (.int (9 : Int32)), .unset, .unset] [(.int (1 : Int32)), (.int (9 : Int32))])) _
    refine XS.icmpNo X2.here hx rfl (hb hby own_d4_14) rfl (flt (by decide : ¬ ((9 : Int32) < (1 : Int32)))).1 ?_
    show Steps p.tables e below (T2.setTop (mkF m 17 #[.val (.int (144 : Int32)), .val (.int (9 : Int32)), .unset, .unset] [])) _
    refine XS.iloadN X2.here hx rfl (hb hby own_d4_17) rfl ?_
    show Steps p.tables e below (T2.setTop (mkF m 18 #[.val (.int (144 : Int32)), .val (.int (9 : Int32)), .unset, .unset] [(.int (9 : Int32))])) _
    refine st3 _ ?_
    show Steps p.tables e below (T3.setTop (mkF m 21 #[.val (.int (144 : Int32)), .val (.int (9 : Int32)), .unset, .unset] [(.ref w_DISCONNECT), (.int (9 : Int32))])) _
    refine st4 _ ?_
    show Steps p.tables e below (T4.setTop (mkF m 24 #[.val (.int (144 : Int32)), .val (.int (9 : Int32)), .unset, .unset] [(.int (14 : Int32)), (.int (9 : Int32))])) _
    refine XS.icmpYes X4.here hx rfl (pc0 := 24) (pc' := 41) rfl (hb hby own_d4_24) rfl (flt (by decide : ¬ ((14 : Int32) < (9 : Int32)))).2.2.2 (by decide) (by decide) ?_
    show Steps p.tables e below (T4.setTop (mkF m 41 #[.val (.int (144 : Int32)), .val (.int (9 : Int32)), .unset, .unset] [])) _
    refine st5 _ ?_
    show Steps p.tables e below (T5.setTop (mkF m 44 #[.val (.int (144 : Int32)), .val (.int (9 : Int32)), .unset, .unset] [(.ref r5)])) _
    refine XS.iloadN X5.here hx rfl (hb hby own_d4_44) rfl ?_
    show Steps p.tables e below (T5.setTop (mkF m 45 #[.val (.int (144 : Int32)), .val (.int (9 : Int32)), .unset, .unset] [(.int (9 : Int32)), (.ref r5)])) _
    refine st17 _ ?_
    show Steps p.tables e below (T17.setTop (mkF m 48 #[.val (.int (144 : Int32)), .val (.int (9 : Int32)), .unset, .unset] [(.ref w_CONNECT), (.int (9 : Int32)), (.ref r5)])) _
    refine st18 _ ?_
    show Steps p.tables e below (T18.setTop (mkF m 51 #[.val (.int (144 : Int32)), .val (.int (9 : Int32)), .unset, .unset] [(.int (1 : Int32)), (.int (9 : Int32)), (.ref r5)])) _
    refine XS.isub X18.here hx rfl (hb hby own_d4_51) rfl ?_
    show Steps p.tables e below (T18.setTop (mkF m 52 #[.val (.int (144 : Int32)), .val (.int (9 : Int32)), .unset, .unset] [(.int (8 : Int32)), (.ref r5)])) _
    refine X18.aaload hx (j := (8 : Int32)) (v := (.ref w_SUBACK)) (by rw [e18]; exact Ar19.1) (State.isArrayOf_alike hZ.alike Ar19.2.1) rfl Ar19.2.2 hin19 hat19 (g := (mkF m 52 #[.val (.int (144 : Int32)), .val (.int (9 : Int32)), .unset, .unset] [(.int (8 : Int32)), (.ref r5)])) rfl rfl (hb hby own_d4_52) _ ?_
    show Steps p.tables e below (T18.setTop (mkF m 53 #[.val (.int (144 : Int32)), .val (.int (9 : Int32)), .unset, .unset] [(.ref w_SUBACK)])) _
    refine XS.astoreN X18.here hx rfl (hb hby own_d4_53) rfl rfl (l' := #[.val (.int (144 : Int32)), .val (.int (9 : Int32)), .val (.ref w_SUBACK), .unset]) rfl ?_
    show Steps p.tables e below (T18.setTop (mkF m 54 #[.val (.int (144 : Int32)), .val (.int (9 : Int32)), .val (.ref w_SUBACK), .unset] [])) _
    refine XS.iloadN X18.here hx rfl (hb hby own_d4_54) rfl ?_
    show Steps p.tables e below (T18.setTop (mkF m 55 #[.val (.int (144 : Int32)), .val (.int (9 : Int32)), .val (.ref w_SUBACK), .unset] [(.int (144 : Int32))])) _
    refine XS.bipush X18.here hx rfl (hb hby own_d4_55) ?_
    show Steps p.tables e below (T18.setTop (mkF m 57 #[.val (.int (144 : Int32)), .val (.int (9 : Int32)), .val (.ref w_SUBACK), .unset] [(.int (15 : Int32)), (.int (144 : Int32))])) _
    refine XS.iand X18.here hx rfl (hb hby own_d4_57) rfl ?_
    show Steps p.tables e below (T18.setTop (mkF m 58 #[.val (.int (144 : Int32)), .val (.int (9 : Int32)), .val (.ref w_SUBACK), .unset] [(.int (0 : Int32))])) _
    refine XS.istoreN X18.here hx rfl (hb hby own_d4_58) rfl (l' := #[.val (.int (144 : Int32)), .val (.int (9 : Int32)), .val (.ref w_SUBACK), .val (.int (0 : Int32))]) rfl ?_
    show Steps p.tables e below (T18.setTop (mkF m 59 #[.val (.int (144 : Int32)), .val (.int (9 : Int32)), .val (.ref w_SUBACK), .val (.int (0 : Int32))] [])) _
    refine XS.aloadN X18.here hx rfl (hb hby own_d4_59) rfl rfl ?_
    show Steps p.tables e below (T18.setTop (mkF m 60 #[.val (.int (144 : Int32)), .val (.int (9 : Int32)), .val (.ref w_SUBACK), .val (.int (0 : Int32))] [(.ref w_SUBACK)])) _
    refine st20 _ ?_
    show Steps p.tables e below (T20.setTop (mkF m 63 #[.val (.int (144 : Int32)), .val (.int (9 : Int32)), .val (.ref w_SUBACK), .val (.int (0 : Int32))] [(.int (0 : Int32))])) _
    refine XS.iconst X20.here hx rfl (hb hby own_d4_63) ?_
    show Steps p.tables e below (T20.setTop (mkF m 64 #[.val (.int (144 : Int32)), .val (.int (9 : Int32)), .val (.ref w_SUBACK), .val (.int (0 : Int32))] [(.int (-1 : Int32)), (.int (0 : Int32))])) _
    refine XS.icmpNo X20.here hx rfl (hb hby own_d4_64) rfl (feq (by decide : ¬ ((0 : Int32) = (-1 : Int32)))).1 ?_
    show Steps p.tables e below (T20.setTop (mkF m 67 #[.val (.int (144 : Int32)), .val (.int (9 : Int32)), .val (.ref w_SUBACK), .val (.int (0 : Int32))] [])) _
    refine XS.iloadN X20.here hx rfl (hb hby own_d4_67) rfl ?_
    show Steps p.tables e below (T20.setTop (mkF m 68 #[.val (.int (144 : Int32)), .val (.int (9 : Int32)), .val (.ref w_SUBACK), .val (.int (0 : Int32))] [(.int (0 : Int32))])) _
    refine XS.aloadN X20.here hx rfl (hb hby own_d4_68) rfl rfl ?_
    show Steps p.tables e below (T20.setTop (mkF m 69 #[.val (.int (144 : Int32)), .val (.int (9 : Int32)), .val (.ref w_SUBACK), .val (.int (0 : Int32))] [(.ref w_SUBACK), (.int (0 : Int32))])) _
    refine st21 _ ?_
    show Steps p.tables e below (T21.setTop (mkF m 72 #[.val (.int (144 : Int32)), .val (.int (9 : Int32)), .val (.ref w_SUBACK), .val (.int (0 : Int32))] [(.int (0 : Int32)), (.int (0 : Int32))])) _
    refine XS.icmpYes X21.here hx rfl (pc0 := 72) (pc' := 97) rfl (hb hby own_d4_72) rfl (teq (by decide : (0 : Int32) = (0 : Int32))).1 (by decide) (by decide) ?_
    show Steps p.tables e below (T21.setTop (mkF m 97 #[.val (.int (144 : Int32)), .val (.int (9 : Int32)), .val (.ref w_SUBACK), .val (.int (0 : Int32))] [])) _
    refine XS.aloadN X21.here hx rfl (hb hby own_d4_97) rfl rfl ?_
    show Steps p.tables e below (T21.setTop (mkF m 98 #[.val (.int (144 : Int32)), .val (.int (9 : Int32)), .val (.ref w_SUBACK), .val (.int (0 : Int32))] [(.ref w_SUBACK)])) _
    jvm_step X21.here [X21.here.top, hx, (hb hby own_d4_98), X21.method', Bd.returns, Value.isRef, FieldType.isReference]
    first | (intro acts; rw [hr _ acts rfl rfl rfl]) | rw [hr _ _ rfl rfl rfl]
    exact Steps.refl _
  · show own_v144_Q4 Z w_CONNECT w_DISCONNECT k_w__VALUES w_CONNACK w_PUBLISH w_PUBACK w_PUBREC w_PUBREL w_PUBCOMP w_SUBSCRIBE w_SUBACK w_UNSUBSCRIBE w_UNSUBACK w_PINGREQ w_PINGRESP w__VALUES h0 n0 _ T21.heap _
    rw [e21]
    exact ⟨(by rw [own_v144_f4]), N16, K15⟩
-- body 4, variant 162
theorem own_v162_ef4 (m : MethodId)  : entryFrame m #[(.int (162 : Int32))] 4 = mkF m 0 #[.val (.int (162 : Int32)), .unset, .unset, .unset] [] := by first | (simp [entryFrame, mkF, argsToLocals, Value.category]; done) | rfl
def own_v162_f4 (w_UNSUBSCRIBE : Addr) : Addr := w_UNSUBSCRIBE
def own_v162_Q4 (Z : State) (w_CONNECT : Addr) (w_DISCONNECT : Addr) (k_w__VALUES : ClassId) (w_CONNACK : Addr) (w_PUBLISH : Addr) (w_PUBACK : Addr) (w_PUBREC : Addr) (w_PUBREL : Addr) (w_PUBCOMP : Addr) (w_SUBSCRIBE : Addr) (w_SUBACK : Addr) (w_UNSUBSCRIBE : Addr) (w_UNSUBACK : Addr) (w_PINGREQ : Addr) (w_PINGRESP : Addr) (w__VALUES : Addr) (h0 : Heap) (n0 : Nat) (v : Option Value) (h : Heap) (L : List Loc) : Prop := v = some (.ref (own_v162_f4 w_UNSUBSCRIBE)) ∧ Fr n0 L ∧ Keep h0 h []
set_option maxRecDepth 65536 in
set_option maxHeartbeats 40000000 in
theorem own_v162_rm4 (l : Launch) (Z : State) (a0 : Array Value) (hw : ∀ d ∈ tables_1, d.before a0 Z = true) (ws : List Jvm.Cond) (w_CONNECT : Addr) (w_DISCONNECT : Addr) (k_w__VALUES : ClassId) (w_CONNACK : Addr) (w_PUBLISH : Addr) (w_PUBACK : Addr) (w_PUBREC : Addr) (w_PUBREL : Addr) (w_PUBCOMP : Addr) (w_SUBSCRIBE : Addr) (w_SUBACK : Addr) (w_UNSUBSCRIBE : Addr) (w_UNSUBACK : Addr) (w_PINGREQ : Addr) (w_PINGRESP : Addr) (w__VALUES : Addr) (h0 : Heap) (n0 : Nat) (Z0 : n0 ≤ h0.size) (S_CONNECT : Sta Z h0 "com/example/castd/castd/mqtt/PacketType" "CONNECT" "Lcom/example/castd/castd/mqtt/PacketType;" (.ref w_CONNECT)) (F_code_w_CONNECT : Fld Z h0 w_CONNECT "com/example/castd/castd/mqtt/PacketType" "code" "I" (.int (1 : Int32))) (S_DISCONNECT : Sta Z h0 "com/example/castd/castd/mqtt/PacketType" "DISCONNECT" "Lcom/example/castd/castd/mqtt/PacketType;" (.ref w_DISCONNECT)) (F_code_w_DISCONNECT : Fld Z h0 w_DISCONNECT "com/example/castd/castd/mqtt/PacketType" "code" "I" (.int (14 : Int32))) (V_w__VALUES : Arv Z h0 w__VALUES k_w__VALUES (.object "com/example/castd/castd/mqtt/PacketType") (14 : Int32) [(.ref w_CONNECT), (.ref w_CONNACK), (.ref w_PUBLISH), (.ref w_PUBACK), (.ref w_PUBREC), (.ref w_PUBREL), (.ref w_PUBCOMP), (.ref w_SUBSCRIBE), (.ref w_SUBACK), (.ref w_UNSUBSCRIBE), (.ref w_UNSUBACK), (.ref w_PINGREQ), (.ref w_PINGRESP), (.ref w_DISCONNECT)] .null) (S__VALUES : Sta Z h0 "com/example/castd/castd/mqtt/PacketType" "$VALUES" "[Lcom/example/castd/castd/mqtt/PacketType;" (.ref w__VALUES)) (E_w__VALUES : Exa Z h0 w__VALUES "[Lcom/example/castd/castd/mqtt/PacketType;") (F_requiredFlags_w_UNSUBSCRIBE : Fld Z h0 w_UNSUBSCRIBE "com/example/castd/castd/mqtt/PacketType" "requiredFlags" "I" (.int (2 : Int32))) :
    MetFree l (⟨"com/example/castd/castd/mqtt/PacketType", "fromFirstByte", "(I)Lcom/example/castd/castd/mqtt/PacketType;"⟩ : MethodName) (head1 (Jvm.Cond.code (⟨"com/example/castd/castd/mqtt/PacketType", "fromFirstByte", "(I)Lcom/example/castd/castd/mqtt/PacketType;"⟩ : MethodName) prog_85_method_4_code 4 (some (.object "com/example/castd/castd/mqtt/PacketType")) :: ws) ({ frames := 2, cells := 1, slots := 14, locals := 25 } : Room)) (fun a U => a = #[(.int (162 : Int32))] ∧ Z.Warmed39 U.vm ∧ U.heap = h0) (fun _ _ _ _ _ => True) (fun _ U o U' => ∃ v L, o = .returned v ∧ own_v162_Q4 Z w_CONNECT w_DISCONNECT k_w__VALUES w_CONNACK w_PUBLISH w_PUBACK w_PUBREC w_PUBREL w_PUBCOMP w_SUBSCRIBE w_SUBACK w_UNSUBSCRIBE w_UNSUBACK w_PINGREQ w_PINGRESP w__VALUES h0 n0 v U'.heap L ∧ FrameEnd U o U' L ({ frames := 2, cells := 1, slots := 14, locals := 25 } : Room).cells ({ frames := 2, cells := 1, slots := 14, locals := 25 } : Room).slots) := by
  refine MetFree.of_bodySF (plainFor_of_name own_pn32) hisR ?_
  intro p e s m args below meth c s₁ Bd hml0 hP hK
  obtain ⟨rfl, hZ, hh⟩ := hP
  have hx := Bd.exec
  have hby := Bd.bytes
  have hml : c.maxLocals = 4 := hml0
  have hown : s.vm.findClass "com/example/castd/castd/mqtt/PacketType" = some m.cls := findClass_of_methodNamed Bd.named
  have hnm := (name_of_methodNamed Bd.named Bd.method).1
  have X0 : Stand p l e ({ frames := 2, cells := 1, slots := 14, locals := 25 } : Room) s m #[(.int (162 : Int32))] below meth c s₁ [] 0 0 := Stand.of_body Bd
  have e0 : s₁.heap = h0 := by rw [← hh, Bd.state]; rfl
  have N0 := Fr.nil n0
  have pre0 : ∀ t, Steps p.tables e below (s₁.setTop (mkF m 0 #[.val (.int (162 : Int32)), .unset, .unset, .unset] [])) t → Steps p.tables e below (s₁.setTop (entryFrame m #[(.int (162 : Int32))] 4)) t := fun t k => castTop (own_v162_ef4 m ) k
  obtain ⟨T1, X1, e1, st1⟩ := getS2 X0 hx hZ hown (host := "") (Or.inl (hw _ (List.mem_of_getElem? (i := 23) rfl))) Via.refl e0 S_CONNECT (g := (mkF m 8 #[.val (.int (162 : Int32)), .val (.int (10 : Int32)), .unset, .unset] [(.int (10 : Int32))])) rfl (hb hby own_d4_8)
  obtain ⟨T2, X2, e2, st2⟩ := getF X1 hx hZ hown (host := "") (Or.inl (hw _ (List.mem_of_getElem? (i := 15) rfl))) Via.refl e1 F_code_w_CONNECT (g := (mkF m 11 #[.val (.int (162 : Int32)), .val (.int (10 : Int32)), .unset, .unset] [(.ref w_CONNECT), (.int (10 : Int32))])) rfl rfl (hb hby own_d4_11)
  obtain ⟨T3, X3, e3, st3⟩ := getS2 X2 hx hZ hown (host := "") (Or.inl (hw _ (List.mem_of_getElem? (i := 24) rfl))) Via.refl e2 S_DISCONNECT (g := (mkF m 18 #[.val (.int (162 : Int32)), .val (.int (10 : Int32)), .unset, .unset] [(.int (10 : Int32))])) rfl (hb hby own_d4_18)
  obtain ⟨T4, X4, e4, st4⟩ := getF X3 hx hZ hown (host := "") (Or.inl (hw _ (List.mem_of_getElem? (i := 15) rfl))) Via.refl e3 F_code_w_DISCONNECT (g := (mkF m 21 #[.val (.int (162 : Int32)), .val (.int (10 : Int32)), .unset, .unset] [(.ref w_DISCONNECT), (.int (10 : Int32))])) rfl rfl (hb hby own_d4_21)
  obtain ⟨v5, _, ⟨T5, L5, k5, n5⟩, -, X5, ⟨Lc5, hQ5, l5, y5, z5⟩, st5⟩ := Jvm.LawKit.callS X4 hx (y := (⟨"com/example/castd/castd/mqtt/PacketType", "values", "()[Lcom/example/castd/castd/mqtt/PacketType;"⟩ : MethodName)) hown (mvT hZ (hw _ (List.mem_of_getElem? (i := 26) rfl))) (mvT hZ (hw _ (List.mem_of_getElem? (i := 27) rfl))) (mvT hZ (hw _ (List.mem_of_getElem? (i := 6) rfl))) (mvT hZ (hw _ (List.mem_of_getElem? (i := 28) rfl))) (by decide) (backOf (W := 0) (own_rm5 l Z a0 hw [] k_w__VALUES w_CONNECT w_CONNACK w_PUBLISH w_PUBACK w_PUBREC w_PUBREL w_PUBCOMP w_SUBSCRIBE w_SUBACK w_UNSUBSCRIBE w_UNSUBACK w_PINGREQ w_PINGRESP w_DISCONNECT w__VALUES h0 n0 Z0 V_w__VALUES S__VALUES E_w__VALUES) hZ (hw _ (List.mem_of_getElem? (i := 28) rfl)) (hw _ (List.mem_of_getElem? (i := 6) rfl)) (by decide) (by decide)) (g := (mkF m 41 #[.val (.int (162 : Int32)), .val (.int (10 : Int32)), .unset, .unset] [])) rfl (by rw [hml]; rfl) (argsL := []) (rest := []) (lenOf own_pd82 rfl) rfl (by show 2 * 0 + _ ≤ _; exact Nat.le_of_eq rfl) (hb hby own_d4_41) (fun _ _ => ⟨rfl, e4, (by decide : 0 + 1 ≤ _), (by decide : 0 + 14 ≤ _)⟩)
  dsimp only [Pt.U, Pt.locs, Pt.cells, Pt.slots] at X5 l5 y5 z5 st5 hQ5
  subst l5 y5 z5
  obtain ⟨r5, rfl, N5q, K5, hr5, Q5_0, Q5_1⟩ := hQ5
  have ne_w_CONNECT_r5 : w_CONNECT ≠ r5 := Nat.ne_of_lt (Nat.lt_of_lt_of_le F_code_w_CONNECT.lt hr5)
  have ne_w_DISCONNECT_r5 : w_DISCONNECT ≠ r5 := Nat.ne_of_lt (Nat.lt_of_lt_of_le F_code_w_DISCONNECT.lt hr5)
  have ne_w__VALUES_r5 : w__VALUES ≠ r5 := Nat.ne_of_lt (Nat.lt_of_lt_of_le V_w__VALUES.lt hr5)
  have ne_w_UNSUBSCRIBE_r5 : w_UNSUBSCRIBE ≠ r5 := Nat.ne_of_lt (Nat.lt_of_lt_of_le F_requiredFlags_w_UNSUBSCRIBE.lt hr5)
  have g_r5 : n0 ≤ r5 := Nat.le_trans Z0 hr5
  have sz_r5 : h0.size ≤ r5 := hr5
  have f6 := own_staKeep S_CONNECT K5
  have f7 := F_code_w_CONNECT.keep K5 nin0
  have f8 := own_staKeep S_DISCONNECT K5
  have f9 := F_code_w_DISCONNECT.keep K5 nin0
  have f10 := V_w__VALUES.keep K5 nin0
  have f11 := own_staKeep S__VALUES K5
  have f12 := E_w__VALUES.keep K5
  have f13 := F_requiredFlags_w_UNSUBSCRIBE.keep K5 nin0
  have Z14 := Nat.le_trans Z0 K5.1
  have K15 : Keep h0 T5.heap [] := Keep.trans (Keep.refl h0 _) K5 all0
  have N16 := Fr.app N0 N5q
  obtain ⟨T17, X17, e17, st17⟩ := getS2 X5 hx hZ hown (host := "") (Or.inl (hw _ (List.mem_of_getElem? (i := 23) rfl))) Via.refl rfl f6 (g := (mkF m 45 #[.val (.int (162 : Int32)), .val (.int (10 : Int32)), .unset, .unset] [(.int (10 : Int32)), (.ref r5)])) rfl (hb hby own_d4_45)
  obtain ⟨T18, X18, e18, st18⟩ := getF X17 hx hZ hown (host := "") (Or.inl (hw _ (List.mem_of_getElem? (i := 15) rfl))) Via.refl e17 f7 (g := (mkF m 48 #[.val (.int (162 : Int32)), .val (.int (10 : Int32)), .unset, .unset] [(.ref w_CONNECT), (.int (10 : Int32)), (.ref r5)])) rfl rfl (hb hby own_d4_48)
  obtain ⟨cl19, Ar19, qk19, Sz19, Nn19, Hs19, Gf19⟩ := id Q5_0
  have hin19 : ¬ ((9 : Int32) < 0 ∨ cl19.slots.size ≤ ((9 : Int32)).toNatClampNeg) := inb_of Sz19 ⟨by decide, by decide⟩
  have hat19 : cl19.slots[((9 : Int32)).toNatClampNeg]? = some (.ref w_UNSUBSCRIBE) := Has.at Hs19 hin19 rfl
  obtain ⟨T20, X20, e20, st20⟩ := getF X18 hx hZ hown (host := "") (Or.inl (hw _ (List.mem_of_getElem? (i := 13) rfl))) Via.refl e18 f13 (g := (mkF m 60 #[.val (.int (162 : Int32)), .val (.int (10 : Int32)), .val (.ref w_UNSUBSCRIBE), .val (.int (2 : Int32))] [(.ref w_UNSUBSCRIBE)])) rfl rfl (hb hby own_d4_60)
  obtain ⟨T21, X21, e21, st21⟩ := getF X20 hx hZ hown (host := "") (Or.inl (hw _ (List.mem_of_getElem? (i := 13) rfl))) Via.refl e20 f13 (g := (mkF m 69 #[.val (.int (162 : Int32)), .val (.int (10 : Int32)), .val (.ref w_UNSUBSCRIBE), .val (.int (2 : Int32))] [(.ref w_UNSUBSCRIBE), (.int (2 : Int32))])) rfl rfl (hb hby own_d4_69)
  obtain ⟨fs, hr, hrun, hended, hW, hsame⟩ := X21.leave (v := some (.ref w_UNSUBSCRIBE)) (fun h => by rw [Bd.returns] at h; cases h)
  refine ⟨_, _, pre0 _ ?_, hrun, hended, _, _, rfl, ?_, ⟨_, rfl⟩, hW, hsame.mono (by decide) (by decide)⟩
  · show Steps p.tables e below (s₁.setTop (mkF m 0 #[.val (.int (162 : Int32)), .unset, .unset, .unset] [])) _
    refine XS.iloadN X0.here hx rfl (hb hby own_d4_0) rfl ?_
    show Steps p.tables e below (s₁.setTop (mkF m 1 #[.val (.int (162 : Int32)), .unset, .unset, .unset] [(.int (162 : Int32))])) _
    refine XS.iconst X0.here hx rfl (hb hby own_d4_1) ?_
    show Steps p.tables e below (s₁.setTop (mkF m 2 #[.val (.int (162 : Int32)), .unset, .unset, .unset] [(.int (4 : Int32)), (.int (162 : Int32))])) _
    refine XS.ishr X0.here hx rfl (hb hby own_d4_2) rfl ?_
    show Steps p.tables e below (s₁.setTop (mkF m 3 #[.val (.int (162 : Int32)), .unset, .unset, .unset] [(.int (10 : Int32))])) _
    refine XS.bipush X0.here hx rfl (hb hby own_d4_3) ?_
    show Steps p.tables e below (s₁.setTop (mkF m 5 #[.val (.int (162 : Int32)), .unset, .unset, .unset] [(.int (15 : Int32)), (.int (10 : Int32))])) _
    refine XS.iand X0.here hx rfl (hb hby own_d4_5) rfl ?_
    show Steps p.tables e below (s₁.setTop (mkF m 6 #[.val (.int (162 : Int32)), .unset, .unset, .unset] [(.int (10 : Int32))])) _
    refine XS.istoreN X0.here hx rfl (hb hby own_d4_6) rfl (l' := #[.val (.int (162 : Int32)), .val (.int (10 : Int32)), .unset, .unset]) rfl ?_
    show Steps p.tables e below (s₁.setTop (mkF m 7 #[.val (.int (162 : Int32)), .val (.int (10 : Int32)), .unset, .unset] [])) _
    refine XS.iloadN X0.here hx rfl (hb hby own_d4_7) rfl ?_
    show Steps p.tables e below (s₁.setTop (mkF m 8 #[.val (.int (162 : Int32)), .val (.int (10 : Int32)), .unset, .unset] [(.int (10 : Int32))])) _
    refine st1 _ ?_
    show Steps p.tables e below (T1.setTop (mkF m 11 #[.val (.int (162 : Int32)), .val (.int (10 : Int32)), .unset, .unset] [(.ref w_CONNECT), (.int (10 : Int32))])) _
    refine st2 _ ?_
    show Steps p.tables e below (T2.setTop (mkF m 14 #[.val (.int (162 : Int32)), .val (.int (10 : Int32)), .unset, .unset] [(.int (1 : Int32)), (.int (10 : Int32))])) _
    refine XS.icmpNo X2.here hx rfl (hb hby own_d4_14) rfl (flt (by decide : ¬ ((10 : Int32) < (1 : Int32)))).1 ?_
    show Steps p.tables e below (T2.setTop (mkF m 17 #[.val (.int (162 : Int32)), .val (.int (10 : Int32)), .unset, .unset] [])) _
    refine XS.iloadN X2.here hx rfl (hb hby own_d4_17) rfl ?_
    show Steps p.tables e below (T2.setTop (mkF m 18 #[.val (.int (162 : Int32)), .val (.int (10 : Int32)), .unset, .unset] [(.int (10 : Int32))])) _
    refine st3 _ ?_
    show Steps p.tables e below (T3.setTop (mkF m 21 #[.val (.int (162 : Int32)), .val (.int (10 : Int32)), .unset, .unset] [(.ref w_DISCONNECT), (.int (10 : Int32))])) _
    refine st4 _ ?_
    show Steps p.tables e below (T4.setTop (mkF m 24 #[.val (.int (162 : Int32)), .val (.int (10 : Int32)), .unset, .unset] [(.int (14 : Int32)), (.int (10 : Int32))])) _
    refine XS.icmpYes X4.here hx rfl (pc0 := 24) (pc' := 41) rfl (hb hby own_d4_24) rfl (flt (by decide : ¬ ((14 : Int32) < (10 : Int32)))).2.2.2 (by decide) (by decide) ?_
    show Steps p.tables e below (T4.setTop (mkF m 41 #[.val (.int (162 : Int32)), .val (.int (10 : Int32)), .unset, .unset] [])) _
    refine st5 _ ?_
    show Steps p.tables e below (T5.setTop (mkF m 44 #[.val (.int (162 : Int32)), .val (.int (10 : Int32)), .unset, .unset] [(.ref r5)])) _
    refine XS.iloadN X5.here hx rfl (hb hby own_d4_44) rfl ?_
    show Steps p.tables e below (T5.setTop (mkF m 45 #[.val (.int (162 : Int32)), .val (.int (10 : Int32)), .unset, .unset] [(.int (10 : Int32)), (.ref r5)])) _
    refine st17 _ ?_
    show Steps p.tables e below (T17.setTop (mkF m 48 #[.val (.int (162 : Int32)), .val (.int (10 : Int32)), .unset, .unset] [(.ref w_CONNECT), (.int (10 : Int32)), (.ref r5)])) _
    refine st18 _ ?_
    show Steps p.tables e below (T18.setTop (mkF m 51 #[.val (.int (162 : Int32)), .val (.int (10 : Int32)), .unset, .unset] [(.int (1 : Int32)), (.int (10 : Int32)), (.ref r5)])) _
    refine XS.isub X18.here hx rfl (hb hby own_d4_51) rfl ?_
    show Steps p.tables e below (T18.setTop (mkF m 52 #[.val (.int (162 : Int32)), .val (.int (10 : Int32)), .unset, .unset] [(.int (9 : Int32)), (.ref r5)])) _
    refine X18.aaload hx (j := (9 : Int32)) (v := (.ref w_UNSUBSCRIBE)) (by rw [e18]; exact Ar19.1) (State.isArrayOf_alike hZ.alike Ar19.2.1) rfl Ar19.2.2 hin19 hat19 (g := (mkF m 52 #[.val (.int (162 : Int32)), .val (.int (10 : Int32)), .unset, .unset] [(.int (9 : Int32)), (.ref r5)])) rfl rfl (hb hby own_d4_52) _ ?_
    show Steps p.tables e below (T18.setTop (mkF m 53 #[.val (.int (162 : Int32)), .val (.int (10 : Int32)), .unset, .unset] [(.ref w_UNSUBSCRIBE)])) _
    refine XS.astoreN X18.here hx rfl (hb hby own_d4_53) rfl rfl (l' := #[.val (.int (162 : Int32)), .val (.int (10 : Int32)), .val (.ref w_UNSUBSCRIBE), .unset]) rfl ?_
    show Steps p.tables e below (T18.setTop (mkF m 54 #[.val (.int (162 : Int32)), .val (.int (10 : Int32)), .val (.ref w_UNSUBSCRIBE), .unset] [])) _
    refine XS.iloadN X18.here hx rfl (hb hby own_d4_54) rfl ?_
    show Steps p.tables e below (T18.setTop (mkF m 55 #[.val (.int (162 : Int32)), .val (.int (10 : Int32)), .val (.ref w_UNSUBSCRIBE), .unset] [(.int (162 : Int32))])) _
    refine XS.bipush X18.here hx rfl (hb hby own_d4_55) ?_
    show Steps p.tables e below (T18.setTop (mkF m 57 #[.val (.int (162 : Int32)), .val (.int (10 : Int32)), .val (.ref w_UNSUBSCRIBE), .unset] [(.int (15 : Int32)), (.int (162 : Int32))])) _
    refine XS.iand X18.here hx rfl (hb hby own_d4_57) rfl ?_
    show Steps p.tables e below (T18.setTop (mkF m 58 #[.val (.int (162 : Int32)), .val (.int (10 : Int32)), .val (.ref w_UNSUBSCRIBE), .unset] [(.int (2 : Int32))])) _
    refine XS.istoreN X18.here hx rfl (hb hby own_d4_58) rfl (l' := #[.val (.int (162 : Int32)), .val (.int (10 : Int32)), .val (.ref w_UNSUBSCRIBE), .val (.int (2 : Int32))]) rfl ?_
    show Steps p.tables e below (T18.setTop (mkF m 59 #[.val (.int (162 : Int32)), .val (.int (10 : Int32)), .val (.ref w_UNSUBSCRIBE), .val (.int (2 : Int32))] [])) _
    refine XS.aloadN X18.here hx rfl (hb hby own_d4_59) rfl rfl ?_
    show Steps p.tables e below (T18.setTop (mkF m 60 #[.val (.int (162 : Int32)), .val (.int (10 : Int32)), .val (.ref w_UNSUBSCRIBE), .val (.int (2 : Int32))] [(.ref w_UNSUBSCRIBE)])) _
    refine st20 _ ?_
    show Steps p.tables e below (T20.setTop (mkF m 63 #[.val (.int (162 : Int32)), .val (.int (10 : Int32)), .val (.ref w_UNSUBSCRIBE), .val (.int (2 : Int32))] [(.int (2 : Int32))])) _
    refine XS.iconst X20.here hx rfl (hb hby own_d4_63) ?_
    show Steps p.tables e below (T20.setTop (mkF m 64 #[.val (.int (162 : Int32)), .val (.int (10 : Int32)), .val (.ref w_UNSUBSCRIBE), .val (.int (2 : Int32))] [(.int (-1 : Int32)), (.int (2 : Int32))])) _
    refine XS.icmpNo X20.here hx rfl (hb hby own_d4_64) rfl (feq (by decide : ¬ ((2 : Int32) = (-1 : Int32)))).1 ?_
    show Steps p.tables e below (T20.setTop (mkF m 67 #[.val (.int (162 : Int32)), .val (.int (10 : Int32)), .val (.ref w_UNSUBSCRIBE), .val (.int (2 : Int32))] [])) _
    refine XS.iloadN X20.here hx rfl (hb hby own_d4_67) rfl ?_
    show Steps p.tables e below (T20.setTop (mkF m 68 #[.val (.int (162 : Int32)), .val (.int (10 : Int32)), .val (.ref w_UNSUBSCRIBE), .val (.int (2 : Int32))] [(.int (2 : Int32))])) _
    refine XS.aloadN X20.here hx rfl (hb hby own_d4_68) rfl rfl ?_
    show Steps p.tables e below (T20.setTop (mkF m 69 #[.val (.int (162 : Int32)), .val (.int (10 : Int32)), .val (.ref w_UNSUBSCRIBE), .val (.int (2 : Int32))] [(.ref w_UNSUBSCRIBE), (.int (2 : Int32))])) _
    refine st21 _ ?_
    show Steps p.tables e below (T21.setTop (mkF m 72 #[.val (.int (162 : Int32)), .val (.int (10 : Int32)), .val (.ref w_UNSUBSCRIBE), .val (.int (2 : Int32))] [(.int (2 : Int32)), (.int (2 : Int32))])) _
    refine XS.icmpYes X21.here hx rfl (pc0 := 72) (pc' := 97) rfl (hb hby own_d4_72) rfl (teq (by decide : (2 : Int32) = (2 : Int32))).1 (by decide) (by decide) ?_
    show Steps p.tables e below (T21.setTop (mkF m 97 #[.val (.int (162 : Int32)), .val (.int (10 : Int32)), .val (.ref w_UNSUBSCRIBE), .val (.int (2 : Int32))] [])) _
    refine XS.aloadN X21.here hx rfl (hb hby own_d4_97) rfl rfl ?_
    show Steps p.tables e below (T21.setTop (mkF m 98 #[.val (.int (162 : Int32)), .val (.int (10 : Int32)), .val (.ref w_UNSUBSCRIBE), .val (.int (2 : Int32))] [(.ref w_UNSUBSCRIBE)])) _
    jvm_step X21.here [X21.here.top, hx, (hb hby own_d4_98), X21.method', Bd.returns, Value.isRef, FieldType.isReference]
    first | (intro acts; rw [hr _ acts rfl rfl rfl]) | rw [hr _ _ rfl rfl rfl]
    exact Steps.refl _
  · show own_v162_Q4 Z w_CONNECT w_DISCONNECT k_w__VALUES w_CONNACK w_PUBLISH w_PUBACK w_PUBREC w_PUBREL w_PUBCOMP w_SUBSCRIBE w_SUBACK w_UNSUBSCRIBE w_UNSUBACK w_PINGREQ w_PINGRESP w__VALUES h0 n0 _ T21.heap _
    rw [e21]
    exact ⟨(by rw [own_v162_f4]), N16, K15⟩
-- body 4, variant 176
theorem own_v176_ef4 (m : MethodId)  : entryFrame m #[(.int (176 : Int32))] 4 = mkF m 0 #[.val (.int (176 : Int32)), .unset, .unset, .unset] [] := by first | (simp [entryFrame, mkF, argsToLocals, Value.category]; done) | rfl
def own_v176_f4 (w_UNSUBACK : Addr) : Addr := w_UNSUBACK
def own_v176_Q4 (Z : State) (w_CONNECT : Addr) (w_DISCONNECT : Addr) (k_w__VALUES : ClassId) (w_CONNACK : Addr) (w_PUBLISH : Addr) (w_PUBACK : Addr) (w_PUBREC : Addr) (w_PUBREL : Addr) (w_PUBCOMP : Addr) (w_SUBSCRIBE : Addr) (w_SUBACK : Addr) (w_UNSUBSCRIBE : Addr) (w_UNSUBACK : Addr) (w_PINGREQ : Addr) (w_PINGRESP : Addr) (w__VALUES : Addr) (h0 : Heap) (n0 : Nat) (v : Option Value) (h : Heap) (L : List Loc) : Prop := v = some (.ref (own_v176_f4 w_UNSUBACK)) ∧ Fr n0 L ∧ Keep h0 h []
set_option maxRecDepth 65536 in
set_option maxHeartbeats 40000000 in
theorem own_v176_rm4 (l : Launch) (Z : State) (a0 : Array Value) (hw : ∀ d ∈ tables_1, d.before a0 Z = true) (ws : List Jvm.Cond) (w_CONNECT : Addr) (w_DISCONNECT : Addr) (k_w__VALUES : ClassId) (w_CONNACK : Addr) (w_PUBLISH : Addr) (w_PUBACK : Addr) (w_PUBREC : Addr) (w_PUBREL : Addr) (w_PUBCOMP : Addr) (w_SUBSCRIBE : Addr) (w_SUBACK : Addr) (w_UNSUBSCRIBE : Addr) (w_UNSUBACK : Addr) (w_PINGREQ : Addr) (w_PINGRESP : Addr) (w__VALUES : Addr) (h0 : Heap) (n0 : Nat) (Z0 : n0 ≤ h0.size) (S_CONNECT : Sta Z h0 "com/example/castd/castd/mqtt/PacketType" "CONNECT" "Lcom/example/castd/castd/mqtt/PacketType;" (.ref w_CONNECT)) (F_code_w_CONNECT : Fld Z h0 w_CONNECT "com/example/castd/castd/mqtt/PacketType" "code" "I" (.int (1 : Int32))) (S_DISCONNECT : Sta Z h0 "com/example/castd/castd/mqtt/PacketType" "DISCONNECT" "Lcom/example/castd/castd/mqtt/PacketType;" (.ref w_DISCONNECT)) (F_code_w_DISCONNECT : Fld Z h0 w_DISCONNECT "com/example/castd/castd/mqtt/PacketType" "code" "I" (.int (14 : Int32))) (V_w__VALUES : Arv Z h0 w__VALUES k_w__VALUES (.object "com/example/castd/castd/mqtt/PacketType") (14 : Int32) [(.ref w_CONNECT), (.ref w_CONNACK), (.ref w_PUBLISH), (.ref w_PUBACK), (.ref w_PUBREC), (.ref w_PUBREL), (.ref w_PUBCOMP), (.ref w_SUBSCRIBE), (.ref w_SUBACK), (.ref w_UNSUBSCRIBE), (.ref w_UNSUBACK), (.ref w_PINGREQ), (.ref w_PINGRESP), (.ref w_DISCONNECT)] .null) (S__VALUES : Sta Z h0 "com/example/castd/castd/mqtt/PacketType" "$VALUES" "[Lcom/example/castd/castd/mqtt/PacketType;" (.ref w__VALUES)) (E_w__VALUES : Exa Z h0 w__VALUES "[Lcom/example/castd/castd/mqtt/PacketType;") (F_requiredFlags_w_UNSUBACK : Fld Z h0 w_UNSUBACK "com/example/castd/castd/mqtt/PacketType" "requiredFlags" "I" (.int (0 : Int32))) :
    MetFree l (⟨"com/example/castd/castd/mqtt/PacketType", "fromFirstByte", "(I)Lcom/example/castd/castd/mqtt/PacketType;"⟩ : MethodName) (head1 (Jvm.Cond.code (⟨"com/example/castd/castd/mqtt/PacketType", "fromFirstByte", "(I)Lcom/example/castd/castd/mqtt/PacketType;"⟩ : MethodName) prog_85_method_4_code 4 (some (.object "com/example/castd/castd/mqtt/PacketType")) :: ws) ({ frames := 2, cells := 1, slots := 14, locals := 25 } : Room)) (fun a U => a = #[(.int (176 : Int32))] ∧ Z.Warmed39 U.vm ∧ U.heap = h0) (fun _ _ _ _ _ => True) (fun _ U o U' => ∃ v L, o = .returned v ∧ own_v176_Q4 Z w_CONNECT w_DISCONNECT k_w__VALUES w_CONNACK w_PUBLISH w_PUBACK w_PUBREC w_PUBREL w_PUBCOMP w_SUBSCRIBE w_SUBACK w_UNSUBSCRIBE w_UNSUBACK w_PINGREQ w_PINGRESP w__VALUES h0 n0 v U'.heap L ∧ FrameEnd U o U' L ({ frames := 2, cells := 1, slots := 14, locals := 25 } : Room).cells ({ frames := 2, cells := 1, slots := 14, locals := 25 } : Room).slots) := by
  refine MetFree.of_bodySF (plainFor_of_name own_pn32) hisR ?_
  intro p e s m args below meth c s₁ Bd hml0 hP hK
  obtain ⟨rfl, hZ, hh⟩ := hP
  have hx := Bd.exec
  have hby := Bd.bytes
  have hml : c.maxLocals = 4 := hml0
  have hown : s.vm.findClass "com/example/castd/castd/mqtt/PacketType" = some m.cls := findClass_of_methodNamed Bd.named
  have hnm := (name_of_methodNamed Bd.named Bd.method).1
  have X0 : Stand p l e ({ frames := 2, cells := 1, slots := 14, locals := 25 } : Room) s m #[(.int (176 : Int32))] below meth c s₁ [] 0 0 := Stand.of_body Bd
  have e0 : s₁.heap = h0 := by rw [← hh, Bd.state]; rfl
  have N0 := Fr.nil n0
  have pre0 : ∀ t, Steps p.tables e below (s₁.setTop (mkF m 0 #[.val (.int (176 : Int32)), .unset, .unset, .unset] [])) t → Steps p.tables e below (s₁.setTop (entryFrame m #[(.int (176 : Int32))] 4)) t := fun t k => castTop (own_v176_ef4 m ) k
  obtain ⟨T1, X1, e1, st1⟩ := getS2 X0 hx hZ hown (host := "") (Or.inl (hw _ (List.mem_of_getElem? (i := 23) rfl))) Via.refl e0 S_CONNECT (g := (mkF m 8 #[.val (.int (176 : Int32)), .val (.int (11 : Int32)), .unset, .unset] [(.int (11 : Int32))])) rfl (hb hby own_d4_8)
  obtain ⟨T2, X2, e2, st2⟩ := getF X1 hx hZ hown (host := "") (Or.inl (hw _ (List.mem_of_getElem? (i := 15) rfl))) Via.refl e1 F_code_w_CONNECT (g := (mkF m 11 #[.val (.int (176 : Int32)), .val (.int (11 : Int32)), .unset, .unset] [(.ref w_CONNECT), (.int (11 : Int32))])) rfl rfl (hb hby own_d4_11)
  obtain ⟨T3, X3, e3, st3⟩ := getS2 X2 hx hZ hown (host := "") (Or.inl (hw _ (List.mem_of_getElem? (i := 24) rfl))) Via.refl e2 S_DISCONNECT (g := (mkF m 18 #[.val (.int (176 : Int32)), .val (.int (11 : Int32)), .unset, .unset] [(.int (11 : Int32))])) rfl (hb hby own_d4_18)
  obtain ⟨T4, X4, e4, st4⟩ := getF X3 hx hZ hown (host := "") (Or.inl (hw _ (List.mem_of_getElem? (i := 15) rfl))) Via.refl e3 F_code_w_DISCONNECT (g := (mkF m 21 #[.val (.int (176 : Int32)), .val (.int (11 : Int32)), .unset, .unset] [(.ref w_DISCONNECT), (.int (11 : Int32))])) rfl rfl (hb hby own_d4_21)
  obtain ⟨v5, _, ⟨T5, L5, k5, n5⟩, -, X5, ⟨Lc5, hQ5, l5, y5, z5⟩, st5⟩ := Jvm.LawKit.callS X4 hx (y := (⟨"com/example/castd/castd/mqtt/PacketType", "values", "()[Lcom/example/castd/castd/mqtt/PacketType;"⟩ : MethodName)) hown (mvT hZ (hw _ (List.mem_of_getElem? (i := 26) rfl))) (mvT hZ (hw _ (List.mem_of_getElem? (i := 27) rfl))) (mvT hZ (hw _ (List.mem_of_getElem? (i := 6) rfl))) (mvT hZ (hw _ (List.mem_of_getElem? (i := 28) rfl))) (by decide) (backOf (W := 0) (own_rm5 l Z a0 hw [] k_w__VALUES w_CONNECT w_CONNACK w_PUBLISH w_PUBACK w_PUBREC w_PUBREL w_PUBCOMP w_SUBSCRIBE w_SUBACK w_UNSUBSCRIBE w_UNSUBACK w_PINGREQ w_PINGRESP w_DISCONNECT w__VALUES h0 n0 Z0 V_w__VALUES S__VALUES E_w__VALUES) hZ (hw _ (List.mem_of_getElem? (i := 28) rfl)) (hw _ (List.mem_of_getElem? (i := 6) rfl)) (by decide) (by decide)) (g := (mkF m 41 #[.val (.int (176 : Int32)), .val (.int (11 : Int32)), .unset, .unset] [])) rfl (by rw [hml]; rfl) (argsL := []) (rest := []) (lenOf own_pd82 rfl) rfl (by show 2 * 0 + _ ≤ _; exact Nat.le_of_eq rfl) (hb hby own_d4_41) (fun _ _ => ⟨rfl, e4, (by decide : 0 + 1 ≤ _), (by decide : 0 + 14 ≤ _)⟩)
  dsimp only [Pt.U, Pt.locs, Pt.cells, Pt.slots] at X5 l5 y5 z5 st5 hQ5
  subst l5 y5 z5
  obtain ⟨r5, rfl, N5q, K5, hr5, Q5_0, Q5_1⟩ := hQ5
  have ne_w_CONNECT_r5 : w_CONNECT ≠ r5 := Nat.ne_of_lt (Nat.lt_of_lt_of_le F_code_w_CONNECT.lt hr5)
  have ne_w_DISCONNECT_r5 : w_DISCONNECT ≠ r5 := Nat.ne_of_lt (Nat.lt_of_lt_of_le F_code_w_DISCONNECT.lt hr5)
  have ne_w__VALUES_r5 : w__VALUES ≠ r5 := Nat.ne_of_lt (Nat.lt_of_lt_of_le V_w__VALUES.lt hr5)
  have ne_w_UNSUBACK_r5 : w_UNSUBACK ≠ r5 := Nat.ne_of_lt (Nat.lt_of_lt_of_le F_requiredFlags_w_UNSUBACK.lt hr5)
  have g_r5 : n0 ≤ r5 := Nat.le_trans Z0 hr5
  have sz_r5 : h0.size ≤ r5 := hr5
  have f6 := own_staKeep S_CONNECT K5
  have f7 := F_code_w_CONNECT.keep K5 nin0
  have f8 := own_staKeep S_DISCONNECT K5
  have f9 := F_code_w_DISCONNECT.keep K5 nin0
  have f10 := V_w__VALUES.keep K5 nin0
  have f11 := own_staKeep S__VALUES K5
  have f12 := E_w__VALUES.keep K5
  have f13 := F_requiredFlags_w_UNSUBACK.keep K5 nin0
  have Z14 := Nat.le_trans Z0 K5.1
  have K15 : Keep h0 T5.heap [] := Keep.trans (Keep.refl h0 _) K5 all0
  have N16 := Fr.app N0 N5q
  obtain ⟨T17, X17, e17, st17⟩ := getS2 X5 hx hZ hown (host := "") (Or.inl (hw _ (List.mem_of_getElem? (i := 23) rfl))) Via.refl rfl f6 (g := (mkF m 45 #[.val (.int (176 : Int32)), .val (.int (11 : Int32)), .unset, .unset] [(.int (11 : Int32)), (.ref r5)])) rfl (hb hby own_d4_45)
  obtain ⟨T18, X18, e18, st18⟩ := getF X17 hx hZ hown (host := "") (Or.inl (hw _ (List.mem_of_getElem? (i := 15) rfl))) Via.refl e17 f7 (g := (mkF m 48 #[.val (.int (176 : Int32)), .val (.int (11 : Int32)), .unset, .unset] [(.ref w_CONNECT), (.int (11 : Int32)), (.ref r5)])) rfl rfl (hb hby own_d4_48)
  obtain ⟨cl19, Ar19, qk19, Sz19, Nn19, Hs19, Gf19⟩ := id Q5_0
  have hin19 : ¬ ((10 : Int32) < 0 ∨ cl19.slots.size ≤ ((10 : Int32)).toNatClampNeg) := inb_of Sz19 ⟨by decide, by decide⟩
  have hat19 : cl19.slots[((10 : Int32)).toNatClampNeg]? = some (.ref w_UNSUBACK) := Has.at Hs19 hin19 rfl
  obtain ⟨T20, X20, e20, st20⟩ := getF X18 hx hZ hown (host := "") (Or.inl (hw _ (List.mem_of_getElem? (i := 13) rfl))) Via.refl e18 f13 (g := (mkF m 60 #[.val (.int (176 : Int32)), .val (.int (11 : Int32)), .val (.ref w_UNSUBACK), .val (.int (0 : Int32))] [(.ref w_UNSUBACK)])) rfl rfl (hb hby own_d4_60)
  obtain ⟨T21, X21, e21, st21⟩ := getF X20 hx hZ hown (host := "") (Or.inl (hw _ (List.mem_of_getElem? (i := 13) rfl))) Via.refl e20 f13 (g := (mkF m 69 #[.val (.int (176 : Int32)), .val (.int (11 : Int32)), .val (.ref w_UNSUBACK), .val (.int (0 : Int32))] [(.ref w_UNSUBACK), (.int (0 : Int32))])) rfl rfl (hb hby own_d4_69)
  obtain ⟨fs, hr, hrun, hended, hW, hsame⟩ := X21.leave (v := some (.ref w_UNSUBACK)) (fun h => by rw [Bd.returns] at h; cases h)
  refine ⟨_, _, pre0 _ ?_, hrun, hended, _, _, rfl, ?_, ⟨_, rfl⟩, hW, hsame.mono (by decide) (by decide)⟩
  · show Steps p.tables e below (s₁.setTop (mkF m 0 #[.val (.int (176 : Int32)), .unset, .unset, .unset] [])) _
    refine XS.iloadN X0.here hx rfl (hb hby own_d4_0) rfl ?_
    show Steps p.tables e below (s₁.setTop (mkF m 1 #[.val (.int (176 : Int32)), .unset, .unset, .unset] [(.int (176 : Int32))])) _
    refine XS.iconst X0.here hx rfl (hb hby own_d4_1) ?_
    show Steps p.tables e below (s₁.setTop (mkF m 2 #[.val (.int (176 : Int32)), .unset, .unset, .unset] [(.int (4 : Int32)), (.int (176 : Int32))])) _
    refine XS.ishr X0.here hx rfl (hb hby own_d4_2) rfl ?_
    show Steps p.tables e below (s₁.setTop (mkF m 3 #[.val (.int (176 : Int32)), .unset, .unset, .unset] [(.int (11 : Int32))])) _
    refine XS.bipush X0.here hx rfl (hb hby own_d4_3) ?_
    show Steps p.tables e below (s₁.setTop (mkF m 5 #[.val (.int (176 : Int32)), .unset, .unset, .unset] [(.int (15 : Int32)), (.int (11 : Int32))])) _
    refine XS.iand X0.here hx rfl (hb hby own_d4_5) rfl ?_
    show Steps p.tables e below (s₁.setTop (mkF m 6 #[.val (.int (176 : Int32)), .unset, .unset, .unset] [(.int (11 : Int32))])) _
    refine XS.istoreN X0.here hx rfl (hb hby own_d4_6) rfl (l' := #[.val (.int (176 : Int32)), .val (.int (11 : Int32)), .unset, .unset]) rfl ?_
    show Steps p.tables e below (s₁.setTop (mkF m 7 #[.val (.int (176 : Int32)), .val (.int (11 : Int32)), .unset, .unset] [])) _
    refine XS.iloadN X0.here hx rfl (hb hby own_d4_7) rfl ?_
    show Steps p.tables e below (s₁.setTop (mkF m 8 #[.val (.int (176 : Int32)), .val (.int (11 : Int32)), .unset, .unset] [(.int (11 : Int32))])) _
    refine st1 _ ?_
    show Steps p.tables e below (T1.setTop (mkF m 11 #[.val (.int (176 : Int32)), .val (.int (11 : Int32)), .unset, .unset] [(.ref w_CONNECT), (.int (11 : Int32))])) _
    refine st2 _ ?_
    show Steps p.tables e below (T2.setTop (mkF m 14 #[.val (.int (176 : Int32)), .val (.int (11 : Int32)), .unset, .unset] [(.int (1 : Int32)), (.int (11 : Int32))])) _
    refine XS.icmpNo X2.here hx rfl (hb hby own_d4_14) rfl (flt (by decide : ¬ ((11 : Int32) < (1 : Int32)))).1 ?_
    show Steps p.tables e below (T2.setTop (mkF m 17 #[.val (.int (176 : Int32)), .val (.int (11 : Int32)), .unset, .unset] [])) _
    refine XS.iloadN X2.here hx rfl (hb hby own_d4_17) rfl ?_
    show Steps p.tables e below (T2.setTop (mkF m 18 #[.val (.int (176 : Int32)), .val (.int (11 : Int32)), .unset, .unset] [(.int (11 : Int32))])) _
    refine st3 _ ?_
    show Steps p.tables e below (T3.setTop (mkF m 21 #[.val (.int (176 : Int32)), .val (.int (11 : Int32)), .unset, .unset] [(.ref w_DISCONNECT), (.int (11 : Int32))])) _
    refine st4 _ ?_
    show Steps p.tables e below (T4.setTop (mkF m 24 #[.val (.int (176 : Int32)), .val (.int (11 : Int32)), .unset, .unset] [(.int (14 : Int32)), (.int (11 : Int32))])) _
    refine XS.icmpYes X4.here hx rfl (pc0 := 24) (pc' := 41) rfl (hb hby own_d4_24) rfl (flt (by decide : ¬ ((14 : Int32) < (11 : Int32)))).2.2.2 (by decide) (by decide) ?_
    show Steps p.tables e below (T4.setTop (mkF m 41 #[.val (.int (176 : Int32)), .val (.int (11 : Int32)), .unset, .unset] [])) _
    refine st5 _ ?_
    show Steps p.tables e below (T5.setTop (mkF m 44 #[.val (.int (176 : Int32)), .val (.int (11 : Int32)), .unset, .unset] [(.ref r5)])) _
    refine XS.iloadN X5.here hx rfl (hb hby own_d4_44) rfl ?_
    show Steps p.tables e below (T5.setTop (mkF m 45 #[.val (.int (176 : Int32)), .val (.int (11 : Int32)), .unset, .unset] [(.int (11 : Int32)), (.ref r5)])) _
    refine st17 _ ?_
    show Steps p.tables e below (T17.setTop (mkF m 48 #[.val (.int (176 : Int32)), .val (.int (11 : Int32)), .unset, .unset] [(.ref w_CONNECT), (.int (11 : Int32)), (.ref r5)])) _
    refine st18 _ ?_
    show Steps p.tables e below (T18.setTop (mkF m 51 #[.val (.int (176 : Int32)), .val (.int (11 : Int32)), .unset, .unset] [(.int (1 : Int32)), (.int (11 : Int32)), (.ref r5)])) _
    refine XS.isub X18.here hx rfl (hb hby own_d4_51) rfl ?_
    show Steps p.tables e below (T18.setTop (mkF m 52 #[.val (.int (176 : Int32)), .val (.int (11 : Int32)), .unset, .unset] [(.int (10 : Int32)), (.ref r5)])) _
    refine X18.aaload hx (j := (10 : Int32)) (v := (.ref w_UNSUBACK)) (by rw [e18]; exact Ar19.1) (State.isArrayOf_alike hZ.alike Ar19.2.1) rfl Ar19.2.2 hin19 hat19 (g := (mkF m 52 #[.val (.int (176 : Int32)), .val (.int (11 : Int32)), .unset, .unset] [(.int (10 : Int32)), (.ref r5)])) rfl rfl (hb hby own_d4_52) _ ?_
    show Steps p.tables e below (T18.setTop (mkF m 53 #[.val (.int (176 : Int32)), .val (.int (11 : Int32)), .unset, .unset] [(.ref w_UNSUBACK)])) _
    refine XS.astoreN X18.here hx rfl (hb hby own_d4_53) rfl rfl (l' := #[.val (.int (176 : Int32)), .val (.int (11 : Int32)), .val (.ref w_UNSUBACK), .unset]) rfl ?_
    show Steps p.tables e below (T18.setTop (mkF m 54 #[.val (.int (176 : Int32)), .val (.int (11 : Int32)), .val (.ref w_UNSUBACK), .unset] [])) _
    refine XS.iloadN X18.here hx rfl (hb hby own_d4_54) rfl ?_
    show Steps p.tables e below (T18.setTop (mkF m 55 #[.val (.int (176 : Int32)), .val (.int (11 : Int32)), .val (.ref w_UNSUBACK), .unset] [(.int (176 : Int32))])) _
    refine XS.bipush X18.here hx rfl (hb hby own_d4_55) ?_
    show Steps p.tables e below (T18.setTop (mkF m 57 #[.val (.int (176 : Int32)), .val (.int (11 : Int32)), .val (.ref w_UNSUBACK), .unset] [(.int (15 : Int32)), (.int (176 : Int32))])) _
    refine XS.iand X18.here hx rfl (hb hby own_d4_57) rfl ?_
    show Steps p.tables e below (T18.setTop (mkF m 58 #[.val (.int (176 : Int32)), .val (.int (11 : Int32)), .val (.ref w_UNSUBACK), .unset] [(.int (0 : Int32))])) _
    refine XS.istoreN X18.here hx rfl (hb hby own_d4_58) rfl (l' := #[.val (.int (176 : Int32)), .val (.int (11 : Int32)), .val (.ref w_UNSUBACK), .val (.int (0 : Int32))]) rfl ?_
    show Steps p.tables e below (T18.setTop (mkF m 59 #[.val (.int (176 : Int32)), .val (.int (11 : Int32)), .val (.ref w_UNSUBACK), .val (.int (0 : Int32))] [])) _
    refine XS.aloadN X18.here hx rfl (hb hby own_d4_59) rfl rfl ?_
    show Steps p.tables e below (T18.setTop (mkF m 60 #[.val (.int (176 : Int32)), .val (.int (11 : Int32)), .val (.ref w_UNSUBACK), .val (.int (0 : Int32))] [(.ref w_UNSUBACK)])) _
    refine st20 _ ?_
    show Steps p.tables e below (T20.setTop (mkF m 63 #[.val (.int (176 : Int32)), .val (.int (11 : Int32)), .val (.ref w_UNSUBACK), .val (.int (0 : Int32))] [(.int (0 : Int32))])) _
    refine XS.iconst X20.here hx rfl (hb hby own_d4_63) ?_
    show Steps p.tables e below (T20.setTop (mkF m 64 #[.val (.int (176 : Int32)), .val (.int (11 : Int32)), .val (.ref w_UNSUBACK), .val (.int (0 : Int32))] [(.int (-1 : Int32)), (.int (0 : Int32))])) _
    refine XS.icmpNo X20.here hx rfl (hb hby own_d4_64) rfl (feq (by decide : ¬ ((0 : Int32) = (-1 : Int32)))).1 ?_
    show Steps p.tables e below (T20.setTop (mkF m 67 #[.val (.int (176 : Int32)), .val (.int (11 : Int32)), .val (.ref w_UNSUBACK), .val (.int (0 : Int32))] [])) _
    refine XS.iloadN X20.here hx rfl (hb hby own_d4_67) rfl ?_
    show Steps p.tables e below (T20.setTop (mkF m 68 #[.val (.int (176 : Int32)), .val (.int (11 : Int32)), .val (.ref w_UNSUBACK), .val (.int (0 : Int32))] [(.int (0 : Int32))])) _
    refine XS.aloadN X20.here hx rfl (hb hby own_d4_68) rfl rfl ?_
    show Steps p.tables e below (T20.setTop (mkF m 69 #[.val (.int (176 : Int32)), .val (.int (11 : Int32)), .val (.ref w_UNSUBACK), .val (.int (0 : Int32))] [(.ref w_UNSUBACK), (.int (0 : Int32))])) _
    refine st21 _ ?_
    show Steps p.tables e below (T21.setTop (mkF m 72 #[.val (.int (176 : Int32)), .val (.int (11 : Int32)), .val (.ref w_UNSUBACK), .val (.int (0 : Int32))] [(.int (0 : Int32)), (.int (0 : Int32))])) _
    refine XS.icmpYes X21.here hx rfl (pc0 := 72) (pc' := 97) rfl (hb hby own_d4_72) rfl (teq (by decide : (0 : Int32) = (0 : Int32))).1 (by decide) (by decide) ?_
    show Steps p.tables e below (T21.setTop (mkF m 97 #[.val (.int (176 : Int32)), .val (.int (11 : Int32)), .val (.ref w_UNSUBACK), .val (.int (0 : Int32))] [])) _
    refine XS.aloadN X21.here hx rfl (hb hby own_d4_97) rfl rfl ?_
    show Steps p.tables e below (T21.setTop (mkF m 98 #[.val (.int (176 : Int32)), .val (.int (11 : Int32)), .val (.ref w_UNSUBACK), .val (.int (0 : Int32))] [(.ref w_UNSUBACK)])) _
    jvm_step X21.here [X21.here.top, hx, (hb hby own_d4_98), X21.method', Bd.returns, Value.isRef, FieldType.isReference]
    first | (intro acts; rw [hr _ acts rfl rfl rfl]) | rw [hr _ _ rfl rfl rfl]
    exact Steps.refl _
  · show own_v176_Q4 Z w_CONNECT w_DISCONNECT k_w__VALUES w_CONNACK w_PUBLISH w_PUBACK w_PUBREC w_PUBREL w_PUBCOMP w_SUBSCRIBE w_SUBACK w_UNSUBSCRIBE w_UNSUBACK w_PINGREQ w_PINGRESP w__VALUES h0 n0 _ T21.heap _
    rw [e21]
    exact ⟨(by rw [own_v176_f4]), N16, K15⟩
-- body 4, variant 192
theorem own_v192_ef4 (m : MethodId)  : entryFrame m #[(.int (192 : Int32))] 4 = mkF m 0 #[.val (.int (192 : Int32)), .unset, .unset, .unset] [] := by first | (simp [entryFrame, mkF, argsToLocals, Value.category]; done) | rfl
def own_v192_f4 (w_PINGREQ : Addr) : Addr := w_PINGREQ
def own_v192_Q4 (Z : State) (w_CONNECT : Addr) (w_DISCONNECT : Addr) (k_w__VALUES : ClassId) (w_CONNACK : Addr) (w_PUBLISH : Addr) (w_PUBACK : Addr) (w_PUBREC : Addr) (w_PUBREL : Addr) (w_PUBCOMP : Addr) (w_SUBSCRIBE : Addr) (w_SUBACK : Addr) (w_UNSUBSCRIBE : Addr) (w_UNSUBACK : Addr) (w_PINGREQ : Addr) (w_PINGRESP : Addr) (w__VALUES : Addr) (h0 : Heap) (n0 : Nat) (v : Option Value) (h : Heap) (L : List Loc) : Prop := v = some (.ref (own_v192_f4 w_PINGREQ)) ∧ Fr n0 L ∧ Keep h0 h []
set_option maxRecDepth 65536 in
set_option maxHeartbeats 40000000 in
theorem own_v192_rm4 (l : Launch) (Z : State) (a0 : Array Value) (hw : ∀ d ∈ tables_1, d.before a0 Z = true) (ws : List Jvm.Cond) (w_CONNECT : Addr) (w_DISCONNECT : Addr) (k_w__VALUES : ClassId) (w_CONNACK : Addr) (w_PUBLISH : Addr) (w_PUBACK : Addr) (w_PUBREC : Addr) (w_PUBREL : Addr) (w_PUBCOMP : Addr) (w_SUBSCRIBE : Addr) (w_SUBACK : Addr) (w_UNSUBSCRIBE : Addr) (w_UNSUBACK : Addr) (w_PINGREQ : Addr) (w_PINGRESP : Addr) (w__VALUES : Addr) (h0 : Heap) (n0 : Nat) (Z0 : n0 ≤ h0.size) (S_CONNECT : Sta Z h0 "com/example/castd/castd/mqtt/PacketType" "CONNECT" "Lcom/example/castd/castd/mqtt/PacketType;" (.ref w_CONNECT)) (F_code_w_CONNECT : Fld Z h0 w_CONNECT "com/example/castd/castd/mqtt/PacketType" "code" "I" (.int (1 : Int32))) (S_DISCONNECT : Sta Z h0 "com/example/castd/castd/mqtt/PacketType" "DISCONNECT" "Lcom/example/castd/castd/mqtt/PacketType;" (.ref w_DISCONNECT)) (F_code_w_DISCONNECT : Fld Z h0 w_DISCONNECT "com/example/castd/castd/mqtt/PacketType" "code" "I" (.int (14 : Int32))) (V_w__VALUES : Arv Z h0 w__VALUES k_w__VALUES (.object "com/example/castd/castd/mqtt/PacketType") (14 : Int32) [(.ref w_CONNECT), (.ref w_CONNACK), (.ref w_PUBLISH), (.ref w_PUBACK), (.ref w_PUBREC), (.ref w_PUBREL), (.ref w_PUBCOMP), (.ref w_SUBSCRIBE), (.ref w_SUBACK), (.ref w_UNSUBSCRIBE), (.ref w_UNSUBACK), (.ref w_PINGREQ), (.ref w_PINGRESP), (.ref w_DISCONNECT)] .null) (S__VALUES : Sta Z h0 "com/example/castd/castd/mqtt/PacketType" "$VALUES" "[Lcom/example/castd/castd/mqtt/PacketType;" (.ref w__VALUES)) (E_w__VALUES : Exa Z h0 w__VALUES "[Lcom/example/castd/castd/mqtt/PacketType;") (F_requiredFlags_w_PINGREQ : Fld Z h0 w_PINGREQ "com/example/castd/castd/mqtt/PacketType" "requiredFlags" "I" (.int (0 : Int32))) :
    MetFree l (⟨"com/example/castd/castd/mqtt/PacketType", "fromFirstByte", "(I)Lcom/example/castd/castd/mqtt/PacketType;"⟩ : MethodName) (head1 (Jvm.Cond.code (⟨"com/example/castd/castd/mqtt/PacketType", "fromFirstByte", "(I)Lcom/example/castd/castd/mqtt/PacketType;"⟩ : MethodName) prog_85_method_4_code 4 (some (.object "com/example/castd/castd/mqtt/PacketType")) :: ws) ({ frames := 2, cells := 1, slots := 14, locals := 25 } : Room)) (fun a U => a = #[(.int (192 : Int32))] ∧ Z.Warmed39 U.vm ∧ U.heap = h0) (fun _ _ _ _ _ => True) (fun _ U o U' => ∃ v L, o = .returned v ∧ own_v192_Q4 Z w_CONNECT w_DISCONNECT k_w__VALUES w_CONNACK w_PUBLISH w_PUBACK w_PUBREC w_PUBREL w_PUBCOMP w_SUBSCRIBE w_SUBACK w_UNSUBSCRIBE w_UNSUBACK w_PINGREQ w_PINGRESP w__VALUES h0 n0 v U'.heap L ∧ FrameEnd U o U' L ({ frames := 2, cells := 1, slots := 14, locals := 25 } : Room).cells ({ frames := 2, cells := 1, slots := 14, locals := 25 } : Room).slots) := by
  refine MetFree.of_bodySF (plainFor_of_name own_pn32) hisR ?_
  intro p e s m args below meth c s₁ Bd hml0 hP hK
  obtain ⟨rfl, hZ, hh⟩ := hP
  have hx := Bd.exec
  have hby := Bd.bytes
  have hml : c.maxLocals = 4 := hml0
  have hown : s.vm.findClass "com/example/castd/castd/mqtt/PacketType" = some m.cls := findClass_of_methodNamed Bd.named
  have hnm := (name_of_methodNamed Bd.named Bd.method).1
  have X0 : Stand p l e ({ frames := 2, cells := 1, slots := 14, locals := 25 } : Room) s m #[(.int (192 : Int32))] below meth c s₁ [] 0 0 := Stand.of_body Bd
  have e0 : s₁.heap = h0 := by rw [← hh, Bd.state]; rfl
  have N0 := Fr.nil n0
  have pre0 : ∀ t, Steps p.tables e below (s₁.setTop (mkF m 0 #[.val (.int (192 : Int32)), .unset, .unset, .unset] [])) t → Steps p.tables e below (s₁.setTop (entryFrame m #[(.int (192 : Int32))] 4)) t := fun t k => castTop (own_v192_ef4 m ) k
  obtain ⟨T1, X1, e1, st1⟩ := getS2 X0 hx hZ hown (host := "") (Or.inl (hw _ (List.mem_of_getElem? (i := 23) rfl))) Via.refl e0 S_CONNECT (g := (mkF m 8 #[.val (.int (192 : Int32)), .val (.int (12 : Int32)), .unset, .unset] [(.int (12 : Int32))])) rfl (hb hby own_d4_8)
  obtain ⟨T2, X2, e2, st2⟩ := getF X1 hx hZ hown (host := "") (Or.inl (hw _ (List.mem_of_getElem? (i := 15) rfl))) Via.refl e1 F_code_w_CONNECT (g := (mkF m 11 #[.val (.int (192 : Int32)), .val (.int (12 : Int32)), .unset, .unset] [(.ref w_CONNECT), (.int (12 : Int32))])) rfl rfl (hb hby own_d4_11)
  obtain ⟨T3, X3, e3, st3⟩ := getS2 X2 hx hZ hown (host := "") (Or.inl (hw _ (List.mem_of_getElem? (i := 24) rfl))) Via.refl e2 S_DISCONNECT (g := (mkF m 18 #[.val (.int (192 : Int32)), .val (.int (12 : Int32)), .unset, .unset] [(.int (12 : Int32))])) rfl (hb hby own_d4_18)
  obtain ⟨T4, X4, e4, st4⟩ := getF X3 hx hZ hown (host := "") (Or.inl (hw _ (List.mem_of_getElem? (i := 15) rfl))) Via.refl e3 F_code_w_DISCONNECT (g := (mkF m 21 #[.val (.int (192 : Int32)), .val (.int (12 : Int32)), .unset, .unset] [(.ref w_DISCONNECT), (.int (12 : Int32))])) rfl rfl (hb hby own_d4_21)
  obtain ⟨v5, _, ⟨T5, L5, k5, n5⟩, -, X5, ⟨Lc5, hQ5, l5, y5, z5⟩, st5⟩ := Jvm.LawKit.callS X4 hx (y := (⟨"com/example/castd/castd/mqtt/PacketType", "values", "()[Lcom/example/castd/castd/mqtt/PacketType;"⟩ : MethodName)) hown (mvT hZ (hw _ (List.mem_of_getElem? (i := 26) rfl))) (mvT hZ (hw _ (List.mem_of_getElem? (i := 27) rfl))) (mvT hZ (hw _ (List.mem_of_getElem? (i := 6) rfl))) (mvT hZ (hw _ (List.mem_of_getElem? (i := 28) rfl))) (by decide) (backOf (W := 0) (own_rm5 l Z a0 hw [] k_w__VALUES w_CONNECT w_CONNACK w_PUBLISH w_PUBACK w_PUBREC w_PUBREL w_PUBCOMP w_SUBSCRIBE w_SUBACK w_UNSUBSCRIBE w_UNSUBACK w_PINGREQ w_PINGRESP w_DISCONNECT w__VALUES h0 n0 Z0 V_w__VALUES S__VALUES E_w__VALUES) hZ (hw _ (List.mem_of_getElem? (i := 28) rfl)) (hw _ (List.mem_of_getElem? (i := 6) rfl)) (by decide) (by decide)) (g := (mkF m 41 #[.val (.int (192 : Int32)), .val (.int (12 : Int32)), .unset, .unset] [])) rfl (by rw [hml]; rfl) (argsL := []) (rest := []) (lenOf own_pd82 rfl) rfl (by show 2 * 0 + _ ≤ _; exact Nat.le_of_eq rfl) (hb hby own_d4_41) (fun _ _ => ⟨rfl, e4, (by decide : 0 + 1 ≤ _), (by decide : 0 + 14 ≤ _)⟩)
  dsimp only [Pt.U, Pt.locs, Pt.cells, Pt.slots] at X5 l5 y5 z5 st5 hQ5
  subst l5 y5 z5
  obtain ⟨r5, rfl, N5q, K5, hr5, Q5_0, Q5_1⟩ := hQ5
  have ne_w_CONNECT_r5 : w_CONNECT ≠ r5 := Nat.ne_of_lt (Nat.lt_of_lt_of_le F_code_w_CONNECT.lt hr5)
  have ne_w_DISCONNECT_r5 : w_DISCONNECT ≠ r5 := Nat.ne_of_lt (Nat.lt_of_lt_of_le F_code_w_DISCONNECT.lt hr5)
  have ne_w__VALUES_r5 : w__VALUES ≠ r5 := Nat.ne_of_lt (Nat.lt_of_lt_of_le V_w__VALUES.lt hr5)
  have ne_w_PINGREQ_r5 : w_PINGREQ ≠ r5 := Nat.ne_of_lt (Nat.lt_of_lt_of_le F_requiredFlags_w_PINGREQ.lt hr5)
  have g_r5 : n0 ≤ r5 := Nat.le_trans Z0 hr5
  have sz_r5 : h0.size ≤ r5 := hr5
  have f6 := own_staKeep S_CONNECT K5
  have f7 := F_code_w_CONNECT.keep K5 nin0
  have f8 := own_staKeep S_DISCONNECT K5
  have f9 := F_code_w_DISCONNECT.keep K5 nin0
  have f10 := V_w__VALUES.keep K5 nin0
  have f11 := own_staKeep S__VALUES K5
  have f12 := E_w__VALUES.keep K5
  have f13 := F_requiredFlags_w_PINGREQ.keep K5 nin0
  have Z14 := Nat.le_trans Z0 K5.1
  have K15 : Keep h0 T5.heap [] := Keep.trans (Keep.refl h0 _) K5 all0
  have N16 := Fr.app N0 N5q
  obtain ⟨T17, X17, e17, st17⟩ := getS2 X5 hx hZ hown (host := "") (Or.inl (hw _ (List.mem_of_getElem? (i := 23) rfl))) Via.refl rfl f6 (g := (mkF m 45 #[.val (.int (192 : Int32)), .val (.int (12 : Int32)), .unset, .unset] [(.int (12 : Int32)), (.ref r5)])) rfl (hb hby own_d4_45)
  obtain ⟨T18, X18, e18, st18⟩ := getF X17 hx hZ hown (host := "") (Or.inl (hw _ (List.mem_of_getElem? (i := 15) rfl))) Via.refl e17 f7 (g := (mkF m 48 #[.val (.int (192 : Int32)), .val (.int (12 : Int32)), .unset, .unset] [(.ref w_CONNECT), (.int (12 : Int32)), (.ref r5)])) rfl rfl (hb hby own_d4_48)
  obtain ⟨cl19, Ar19, qk19, Sz19, Nn19, Hs19, Gf19⟩ := id Q5_0
  have hin19 : ¬ ((11 : Int32) < 0 ∨ cl19.slots.size ≤ ((11 : Int32)).toNatClampNeg) := inb_of Sz19 ⟨by decide, by decide⟩
  have hat19 : cl19.slots[((11 : Int32)).toNatClampNeg]? = some (.ref w_PINGREQ) := Has.at Hs19 hin19 rfl
  obtain ⟨T20, X20, e20, st20⟩ := getF X18 hx hZ hown (host := "") (Or.inl (hw _ (List.mem_of_getElem? (i := 13) rfl))) Via.refl e18 f13 (g := (mkF m 60 #[.val (.int (192 : Int32)), .val (.int (12 : Int32)), .val (.ref w_PINGREQ), .val (.int (0 : Int32))] [(.ref w_PINGREQ)])) rfl rfl (hb hby own_d4_60)
  obtain ⟨T21, X21, e21, st21⟩ := getF X20 hx hZ hown (host := "") (Or.inl (hw _ (List.mem_of_getElem? (i := 13) rfl))) Via.refl e20 f13 (g := (mkF m 69 #[.val (.int (192 : Int32)), .val (.int (12 : Int32)), .val (.ref w_PINGREQ), .val (.int (0 : Int32))] [(.ref w_PINGREQ), (.int (0 : Int32))])) rfl rfl (hb hby own_d4_69)
  obtain ⟨fs, hr, hrun, hended, hW, hsame⟩ := X21.leave (v := some (.ref w_PINGREQ)) (fun h => by rw [Bd.returns] at h; cases h)
  refine ⟨_, _, pre0 _ ?_, hrun, hended, _, _, rfl, ?_, ⟨_, rfl⟩, hW, hsame.mono (by decide) (by decide)⟩
  · show Steps p.tables e below (s₁.setTop (mkF m 0 #[.val (.int (192 : Int32)), .unset, .unset, .unset] [])) _
    refine XS.iloadN X0.here hx rfl (hb hby own_d4_0) rfl ?_
    show Steps p.tables e below (s₁.setTop (mkF m 1 #[.val (.int (192 : Int32)), .unset, .unset, .unset] [(.int (192 : Int32))])) _
    refine XS.iconst X0.here hx rfl (hb hby own_d4_1) ?_
    show Steps p.tables e below (s₁.setTop (mkF m 2 #[.val (.int (192 : Int32)), .unset, .unset, .unset] [(.int (4 : Int32)), (.int (192 : Int32))])) _
    refine XS.ishr X0.here hx rfl (hb hby own_d4_2) rfl ?_
    show Steps p.tables e below (s₁.setTop (mkF m 3 #[.val (.int (192 : Int32)), .unset, .unset, .unset] [(.int (12 : Int32))])) _
    refine XS.bipush X0.here hx rfl (hb hby own_d4_3) ?_
    show Steps p.tables e below (s₁.setTop (mkF m 5 #[.val (.int (192 : Int32)), .unset, .unset, .unset] [(.int (15 : Int32)), (.int (12 : Int32))])) _
    refine XS.iand X0.here hx rfl (hb hby own_d4_5) rfl ?_
    show Steps p.tables e below (s₁.setTop (mkF m 6 #[.val (.int (192 : Int32)), .unset, .unset, .unset] [(.int (12 : Int32))])) _
    refine XS.istoreN X0.here hx rfl (hb hby own_d4_6) rfl (l' := #[.val (.int (192 : Int32)), .val (.int (12 : Int32)), .unset, .unset]) rfl ?_
    show Steps p.tables e below (s₁.setTop (mkF m 7 #[.val (.int (192 : Int32)), .val (.int (12 : Int32)), .unset, .unset] [])) _
    refine XS.iloadN X0.here hx rfl (hb hby own_d4_7) rfl ?_
    show Steps p.tables e below (s₁.setTop (mkF m 8 #[.val (.int (192 : Int32)), .val (.int (12 : Int32)), .unset, .unset] [(.int (12 : Int32))])) _
    refine st1 _ ?_
    show Steps p.tables e below (T1.setTop (mkF m 11 #[.val (.int (192 : Int32)), .val (.int (12 : Int32)), .unset, .unset] [(.ref w_CONNECT), (.int (12 : Int32))])) _
    refine st2 _ ?_
    show Steps p.tables e below (T2.setTop (mkF m 14 #[.val (.int (192 : Int32)), .val (.int (12 : Int32)), .unset, .unset] [(.int (1 : Int32)), (.int (12 : Int32))])) _
    refine XS.icmpNo X2.here hx rfl (hb hby own_d4_14) rfl (flt (by decide : ¬ ((12 : Int32) < (1 : Int32)))).1 ?_
    show Steps p.tables e below (T2.setTop (mkF m 17 #[.val (.int (192 : Int32)), .val (.int (12 : Int32)), .unset, .unset] [])) _
    refine XS.iloadN X2.here hx rfl (hb hby own_d4_17) rfl ?_
    show Steps p.tables e below (T2.setTop (mkF m 18 #[.val (.int (192 : Int32)), .val (.int (12 : Int32)), .unset, .unset] [(.int (12 : Int32))])) _
    refine st3 _ ?_
    show Steps p.tables e below (T3.setTop (mkF m 21 #[.val (.int (192 : Int32)), .val (.int (12 : Int32)), .unset, .unset] [(.ref w_DISCONNECT), (.int (12 : Int32))])) _
    refine st4 _ ?_
    show Steps p.tables e below (T4.setTop (mkF m 24 #[.val (.int (192 : Int32)), .val (.int (12 : Int32)), .unset, .unset] [(.int (14 : Int32)), (.int (12 : Int32))])) _
    refine XS.icmpYes X4.here hx rfl (pc0 := 24) (pc' := 41) rfl (hb hby own_d4_24) rfl (flt (by decide : ¬ ((14 : Int32) < (12 : Int32)))).2.2.2 (by decide) (by decide) ?_
    show Steps p.tables e below (T4.setTop (mkF m 41 #[.val (.int (192 : Int32)), .val (.int (12 : Int32)), .unset, .unset] [])) _
    refine st5 _ ?_
    show Steps p.tables e below (T5.setTop (mkF m 44 #[.val (.int (192 : Int32)), .val (.int (12 : Int32)), .unset, .unset] [(.ref r5)])) _
    refine XS.iloadN X5.here hx rfl (hb hby own_d4_44) rfl ?_
    show Steps p.tables e below (T5.setTop (mkF m 45 #[.val (.int (192 : Int32)), .val (.int (12 : Int32)), .unset, .unset] [(.int (12 : Int32)), (.ref r5)])) _
    refine st17 _ ?_
    show Steps p.tables e below (T17.setTop (mkF m 48 #[.val (.int (192 : Int32)), .val (.int (12 : Int32)), .unset, .unset] [(.ref w_CONNECT), (.int (12 : Int32)), (.ref r5)])) _
    refine st18 _ ?_
    show Steps p.tables e below (T18.setTop (mkF m 51 #[.val (.int (192 : Int32)), .val (.int (12 : Int32)), .unset, .unset] [(.int (1 : Int32)), (.int (12 : Int32)), (.ref r5)])) _
    refine XS.isub X18.here hx rfl (hb hby own_d4_51) rfl ?_
    show Steps p.tables e below (T18.setTop (mkF m 52 #[.val (.int (192 : Int32)), .val (.int (12 : Int32)), .unset, .unset] [(.int (11 : Int32)), (.ref r5)])) _
    refine X18.aaload hx (j := (11 : Int32)) (v := (.ref w_PINGREQ)) (by rw [e18]; exact Ar19.1) (State.isArrayOf_alike hZ.alike Ar19.2.1) rfl Ar19.2.2 hin19 hat19 (g := (mkF m 52 #[.val (.int (192 : Int32)), .val (.int (12 : Int32)), .unset, .unset] [(.int (11 : Int32)), (.ref r5)])) rfl rfl (hb hby own_d4_52) _ ?_
    show Steps p.tables e below (T18.setTop (mkF m 53 #[.val (.int (192 : Int32)), .val (.int (12 : Int32)), .unset, .unset] [(.ref w_PINGREQ)])) _
    refine XS.astoreN X18.here hx rfl (hb hby own_d4_53) rfl rfl (l' := #[.val (.int (192 : Int32)), .val (.int (12 : Int32)), .val (.ref w_PINGREQ), .unset]) rfl ?_
    show Steps p.tables e below (T18.setTop (mkF m 54 #[.val (.int (192 : Int32)), .val (.int (12 : Int32)), .val (.ref w_PINGREQ), .unset] [])) _
    refine XS.iloadN X18.here hx rfl (hb hby own_d4_54) rfl ?_
    show Steps p.tables e below (T18.setTop (mkF m 55 #[.val (.int (192 : Int32)), .val (.int (12 : Int32)), .val (.ref w_PINGREQ), .unset] [(.int (192 : Int32))])) _
    refine XS.bipush X18.here hx rfl (hb hby own_d4_55) ?_
    show Steps p.tables e below (T18.setTop (mkF m 57 #[.val (.int (192 : Int32)), .val (.int (12 : Int32)), .val (.ref w_PINGREQ), .unset] [(.int (15 : Int32)), (.int (192 : Int32))])) _
    refine XS.iand X18.here hx rfl (hb hby own_d4_57) rfl ?_
    show Steps p.tables e below (T18.setTop (mkF m 58 #[.val (.int (192 : Int32)), .val (.int (12 : Int32)), .val (.ref w_PINGREQ), .unset] [(.int (0 : Int32))])) _
    refine XS.istoreN X18.here hx rfl (hb hby own_d4_58) rfl (l' := #[.val (.int (192 : Int32)), .val (.int (12 : Int32)), .val (.ref w_PINGREQ), .val (.int (0 : Int32))]) rfl ?_
    show Steps p.tables e below (T18.setTop (mkF m 59 #[.val (.int (192 : Int32)), .val (.int (12 : Int32)), .val (.ref w_PINGREQ), .val (.int (0 : Int32))] [])) _
    refine XS.aloadN X18.here hx rfl (hb hby own_d4_59) rfl rfl ?_
    show Steps p.tables e below (T18.setTop (mkF m 60 #[.val (.int (192 : Int32)), .val (.int (12 : Int32)), .val (.ref w_PINGREQ), .val (.int (0 : Int32))] [(.ref w_PINGREQ)])) _
    refine st20 _ ?_
    show Steps p.tables e below (T20.setTop (mkF m 63 #[.val (.int (192 : Int32)), .val (.int (12 : Int32)), .val (.ref w_PINGREQ), .val (.int (0 : Int32))] [(.int (0 : Int32))])) _
    refine XS.iconst X20.here hx rfl (hb hby own_d4_63) ?_
    show Steps p.tables e below (T20.setTop (mkF m 64 #[.val (.int (192 : Int32)), .val (.int (12 : Int32)), .val (.ref w_PINGREQ), .val (.int (0 : Int32))] [(.int (-1 : Int32)), (.int (0 : Int32))])) _
    refine XS.icmpNo X20.here hx rfl (hb hby own_d4_64) rfl (feq (by decide : ¬ ((0 : Int32) = (-1 : Int32)))).1 ?_
    show Steps p.tables e below (T20.setTop (mkF m 67 #[.val (.int (192 : Int32)), .val (.int (12 : Int32)), .val (.ref w_PINGREQ), .val (.int (0 : Int32))] [])) _
    refine XS.iloadN X20.here hx rfl (hb hby own_d4_67) rfl ?_
    show Steps p.tables e below (T20.setTop (mkF m 68 #[.val (.int (192 : Int32)), .val (.int (12 : Int32)), .val (.ref w_PINGREQ), .val (.int (0 : Int32))] [(.int (0 : Int32))])) _
    refine XS.aloadN X20.here hx rfl (hb hby own_d4_68) rfl rfl ?_
    show Steps p.tables e below (T20.setTop (mkF m 69 #[.val (.int (192 : Int32)), .val (.int (12 : Int32)), .val (.ref w_PINGREQ), .val (.int (0 : Int32))] [(.ref w_PINGREQ), (.int (0 : Int32))])) _
    refine st21 _ ?_
    show Steps p.tables e below (T21.setTop (mkF m 72 #[.val (.int (192 : Int32)), .val (.int (12 : Int32)), .val (.ref w_PINGREQ), .val (.int (0 : Int32))] [(.int (0 : Int32)), (.int (0 : Int32))])) _
    refine XS.icmpYes X21.here hx rfl (pc0 := 72) (pc' := 97) rfl (hb hby own_d4_72) rfl (teq (by decide : (0 : Int32) = (0 : Int32))).1 (by decide) (by decide) ?_
    show Steps p.tables e below (T21.setTop (mkF m 97 #[.val (.int (192 : Int32)), .val (.int (12 : Int32)), .val (.ref w_PINGREQ), .val (.int (0 : Int32))] [])) _
    refine XS.aloadN X21.here hx rfl (hb hby own_d4_97) rfl rfl ?_
    show Steps p.tables e below (T21.setTop (mkF m 98 #[.val (.int (192 : Int32)), .val (.int (12 : Int32)), .val (.ref w_PINGREQ), .val (.int (0 : Int32))] [(.ref w_PINGREQ)])) _
    jvm_step X21.here [X21.here.top, hx, (hb hby own_d4_98), X21.method', Bd.returns, Value.isRef, FieldType.isReference]
    first | (intro acts; rw [hr _ acts rfl rfl rfl]) | rw [hr _ _ rfl rfl rfl]
    exact Steps.refl _
  · show own_v192_Q4 Z w_CONNECT w_DISCONNECT k_w__VALUES w_CONNACK w_PUBLISH w_PUBACK w_PUBREC w_PUBREL w_PUBCOMP w_SUBSCRIBE w_SUBACK w_UNSUBSCRIBE w_UNSUBACK w_PINGREQ w_PINGRESP w__VALUES h0 n0 _ T21.heap _
    rw [e21]
    exact ⟨(by rw [own_v192_f4]), N16, K15⟩
-- body 4, variant 208
theorem own_v208_ef4 (m : MethodId)  : entryFrame m #[(.int (208 : Int32))] 4 = mkF m 0 #[.val (.int (208 : Int32)), .unset, .unset, .unset] [] := by first | (simp [entryFrame, mkF, argsToLocals, Value.category]; done) | rfl
def own_v208_f4 (w_PINGRESP : Addr) : Addr := w_PINGRESP
def own_v208_Q4 (Z : State) (w_CONNECT : Addr) (w_DISCONNECT : Addr) (k_w__VALUES : ClassId) (w_CONNACK : Addr) (w_PUBLISH : Addr) (w_PUBACK : Addr) (w_PUBREC : Addr) (w_PUBREL : Addr) (w_PUBCOMP : Addr) (w_SUBSCRIBE : Addr) (w_SUBACK : Addr) (w_UNSUBSCRIBE : Addr) (w_UNSUBACK : Addr) (w_PINGREQ : Addr) (w_PINGRESP : Addr) (w__VALUES : Addr) (h0 : Heap) (n0 : Nat) (v : Option Value) (h : Heap) (L : List Loc) : Prop := v = some (.ref (own_v208_f4 w_PINGRESP)) ∧ Fr n0 L ∧ Keep h0 h []
set_option maxRecDepth 65536 in
set_option maxHeartbeats 40000000 in
theorem own_v208_rm4 (l : Launch) (Z : State) (a0 : Array Value) (hw : ∀ d ∈ tables_1, d.before a0 Z = true) (ws : List Jvm.Cond) (w_CONNECT : Addr) (w_DISCONNECT : Addr) (k_w__VALUES : ClassId) (w_CONNACK : Addr) (w_PUBLISH : Addr) (w_PUBACK : Addr) (w_PUBREC : Addr) (w_PUBREL : Addr) (w_PUBCOMP : Addr) (w_SUBSCRIBE : Addr) (w_SUBACK : Addr) (w_UNSUBSCRIBE : Addr) (w_UNSUBACK : Addr) (w_PINGREQ : Addr) (w_PINGRESP : Addr) (w__VALUES : Addr) (h0 : Heap) (n0 : Nat) (Z0 : n0 ≤ h0.size) (S_CONNECT : Sta Z h0 "com/example/castd/castd/mqtt/PacketType" "CONNECT" "Lcom/example/castd/castd/mqtt/PacketType;" (.ref w_CONNECT)) (F_code_w_CONNECT : Fld Z h0 w_CONNECT "com/example/castd/castd/mqtt/PacketType" "code" "I" (.int (1 : Int32))) (S_DISCONNECT : Sta Z h0 "com/example/castd/castd/mqtt/PacketType" "DISCONNECT" "Lcom/example/castd/castd/mqtt/PacketType;" (.ref w_DISCONNECT)) (F_code_w_DISCONNECT : Fld Z h0 w_DISCONNECT "com/example/castd/castd/mqtt/PacketType" "code" "I" (.int (14 : Int32))) (V_w__VALUES : Arv Z h0 w__VALUES k_w__VALUES (.object "com/example/castd/castd/mqtt/PacketType") (14 : Int32) [(.ref w_CONNECT), (.ref w_CONNACK), (.ref w_PUBLISH), (.ref w_PUBACK), (.ref w_PUBREC), (.ref w_PUBREL), (.ref w_PUBCOMP), (.ref w_SUBSCRIBE), (.ref w_SUBACK), (.ref w_UNSUBSCRIBE), (.ref w_UNSUBACK), (.ref w_PINGREQ), (.ref w_PINGRESP), (.ref w_DISCONNECT)] .null) (S__VALUES : Sta Z h0 "com/example/castd/castd/mqtt/PacketType" "$VALUES" "[Lcom/example/castd/castd/mqtt/PacketType;" (.ref w__VALUES)) (E_w__VALUES : Exa Z h0 w__VALUES "[Lcom/example/castd/castd/mqtt/PacketType;") (F_requiredFlags_w_PINGRESP : Fld Z h0 w_PINGRESP "com/example/castd/castd/mqtt/PacketType" "requiredFlags" "I" (.int (0 : Int32))) :
    MetFree l (⟨"com/example/castd/castd/mqtt/PacketType", "fromFirstByte", "(I)Lcom/example/castd/castd/mqtt/PacketType;"⟩ : MethodName) (head1 (Jvm.Cond.code (⟨"com/example/castd/castd/mqtt/PacketType", "fromFirstByte", "(I)Lcom/example/castd/castd/mqtt/PacketType;"⟩ : MethodName) prog_85_method_4_code 4 (some (.object "com/example/castd/castd/mqtt/PacketType")) :: ws) ({ frames := 2, cells := 1, slots := 14, locals := 25 } : Room)) (fun a U => a = #[(.int (208 : Int32))] ∧ Z.Warmed39 U.vm ∧ U.heap = h0) (fun _ _ _ _ _ => True) (fun _ U o U' => ∃ v L, o = .returned v ∧ own_v208_Q4 Z w_CONNECT w_DISCONNECT k_w__VALUES w_CONNACK w_PUBLISH w_PUBACK w_PUBREC w_PUBREL w_PUBCOMP w_SUBSCRIBE w_SUBACK w_UNSUBSCRIBE w_UNSUBACK w_PINGREQ w_PINGRESP w__VALUES h0 n0 v U'.heap L ∧ FrameEnd U o U' L ({ frames := 2, cells := 1, slots := 14, locals := 25 } : Room).cells ({ frames := 2, cells := 1, slots := 14, locals := 25 } : Room).slots) := by
  refine MetFree.of_bodySF (plainFor_of_name own_pn32) hisR ?_
  intro p e s m args below meth c s₁ Bd hml0 hP hK
  obtain ⟨rfl, hZ, hh⟩ := hP
  have hx := Bd.exec
  have hby := Bd.bytes
  have hml : c.maxLocals = 4 := hml0
  have hown : s.vm.findClass "com/example/castd/castd/mqtt/PacketType" = some m.cls := findClass_of_methodNamed Bd.named
  have hnm := (name_of_methodNamed Bd.named Bd.method).1
  have X0 : Stand p l e ({ frames := 2, cells := 1, slots := 14, locals := 25 } : Room) s m #[(.int (208 : Int32))] below meth c s₁ [] 0 0 := Stand.of_body Bd
  have e0 : s₁.heap = h0 := by rw [← hh, Bd.state]; rfl
  have N0 := Fr.nil n0
  have pre0 : ∀ t, Steps p.tables e below (s₁.setTop (mkF m 0 #[.val (.int (208 : Int32)), .unset, .unset, .unset] [])) t → Steps p.tables e below (s₁.setTop (entryFrame m #[(.int (208 : Int32))] 4)) t := fun t k => castTop (own_v208_ef4 m ) k
  obtain ⟨T1, X1, e1, st1⟩ := getS2 X0 hx hZ hown (host := "") (Or.inl (hw _ (List.mem_of_getElem? (i := 23) rfl))) Via.refl e0 S_CONNECT (g := (mkF m 8 #[.val (.int (208 : Int32)), .val (.int (13 : Int32)), .unset, .unset] [(.int (13 : Int32))])) rfl (hb hby own_d4_8)
  obtain ⟨T2, X2, e2, st2⟩ := getF X1 hx hZ hown (host := "") (Or.inl (hw _ (List.mem_of_getElem? (i := 15) rfl))) Via.refl e1 F_code_w_CONNECT (g := (mkF m 11 #[.val (.int (208 : Int32)), .val (.int (13 : Int32)), .unset, .unset] [(.ref w_CONNECT), (.int (13 : Int32))])) rfl rfl (hb hby own_d4_11)
  obtain ⟨T3, X3, e3, st3⟩ := getS2 X2 hx hZ hown (host := "") (Or.inl (hw _ (List.mem_of_getElem? (i := 24) rfl))) Via.refl e2 S_DISCONNECT (g := (mkF m 18 #[.val (.int (208 : Int32)), .val (.int (13 : Int32)), .unset, .unset] [(.int (13 : Int32))])) rfl (hb hby own_d4_18)
  obtain ⟨T4, X4, e4, st4⟩ := getF X3 hx hZ hown (host := "") (Or.inl (hw _ (List.mem_of_getElem? (i := 15) rfl))) Via.refl e3 F_code_w_DISCONNECT (g := (mkF m 21 #[.val (.int (208 : Int32)), .val (.int (13 : Int32)), .unset, .unset] [(.ref w_DISCONNECT), (.int (13 : Int32))])) rfl rfl (hb hby own_d4_21)
  obtain ⟨v5, _, ⟨T5, L5, k5, n5⟩, -, X5, ⟨Lc5, hQ5, l5, y5, z5⟩, st5⟩ := Jvm.LawKit.callS X4 hx (y := (⟨"com/example/castd/castd/mqtt/PacketType", "values", "()[Lcom/example/castd/castd/mqtt/PacketType;"⟩ : MethodName)) hown (mvT hZ (hw _ (List.mem_of_getElem? (i := 26) rfl))) (mvT hZ (hw _ (List.mem_of_getElem? (i := 27) rfl))) (mvT hZ (hw _ (List.mem_of_getElem? (i := 6) rfl))) (mvT hZ (hw _ (List.mem_of_getElem? (i := 28) rfl))) (by decide) (backOf (W := 0) (own_rm5 l Z a0 hw [] k_w__VALUES w_CONNECT w_CONNACK w_PUBLISH w_PUBACK w_PUBREC w_PUBREL w_PUBCOMP w_SUBSCRIBE w_SUBACK w_UNSUBSCRIBE w_UNSUBACK w_PINGREQ w_PINGRESP w_DISCONNECT w__VALUES h0 n0 Z0 V_w__VALUES S__VALUES E_w__VALUES) hZ (hw _ (List.mem_of_getElem? (i := 28) rfl)) (hw _ (List.mem_of_getElem? (i := 6) rfl)) (by decide) (by decide)) (g := (mkF m 41 #[.val (.int (208 : Int32)), .val (.int (13 : Int32)), .unset, .unset] [])) rfl (by rw [hml]; rfl) (argsL := []) (rest := []) (lenOf own_pd82 rfl) rfl (by show 2 * 0 + _ ≤ _; exact Nat.le_of_eq rfl) (hb hby own_d4_41) (fun _ _ => ⟨rfl, e4, (by decide : 0 + 1 ≤ _), (by decide : 0 + 14 ≤ _)⟩)
  dsimp only [Pt.U, Pt.locs, Pt.cells, Pt.slots] at X5 l5 y5 z5 st5 hQ5
  subst l5 y5 z5
  obtain ⟨r5, rfl, N5q, K5, hr5, Q5_0, Q5_1⟩ := hQ5
  have ne_w_CONNECT_r5 : w_CONNECT ≠ r5 := Nat.ne_of_lt (Nat.lt_of_lt_of_le F_code_w_CONNECT.lt hr5)
  have ne_w_DISCONNECT_r5 : w_DISCONNECT ≠ r5 := Nat.ne_of_lt (Nat.lt_of_lt_of_le F_code_w_DISCONNECT.lt hr5)
  have ne_w__VALUES_r5 : w__VALUES ≠ r5 := Nat.ne_of_lt (Nat.lt_of_lt_of_le V_w__VALUES.lt hr5)
  have ne_w_PINGRESP_r5 : w_PINGRESP ≠ r5 := Nat.ne_of_lt (Nat.lt_of_lt_of_le F_requiredFlags_w_PINGRESP.lt hr5)
  have g_r5 : n0 ≤ r5 := Nat.le_trans Z0 hr5
  have sz_r5 : h0.size ≤ r5 := hr5
  have f6 := own_staKeep S_CONNECT K5
  have f7 := F_code_w_CONNECT.keep K5 nin0
  have f8 := own_staKeep S_DISCONNECT K5
  have f9 := F_code_w_DISCONNECT.keep K5 nin0
  have f10 := V_w__VALUES.keep K5 nin0
  have f11 := own_staKeep S__VALUES K5
  have f12 := E_w__VALUES.keep K5
  have f13 := F_requiredFlags_w_PINGRESP.keep K5 nin0
  have Z14 := Nat.le_trans Z0 K5.1
  have K15 : Keep h0 T5.heap [] := Keep.trans (Keep.refl h0 _) K5 all0
  have N16 := Fr.app N0 N5q
  obtain ⟨T17, X17, e17, st17⟩ := getS2 X5 hx hZ hown (host := "") (Or.inl (hw _ (List.mem_of_getElem? (i := 23) rfl))) Via.refl rfl f6 (g := (mkF m 45 #[.val (.int (208 : Int32)), .val (.int (13 : Int32)), .unset, .unset] [(.int (13 : Int32)), (.ref r5)])) rfl (hb hby own_d4_45)
  obtain ⟨T18, X18, e18, st18⟩ := getF X17 hx hZ hown (host := "") (Or.inl (hw _ (List.mem_of_getElem? (i := 15) rfl))) Via.refl e17 f7 (g := (mkF m 48 #[.val (.int (208 : Int32)), .val (.int (13 : Int32)), .unset, .unset] [(.ref w_CONNECT), (.int (13 : Int32)), (.ref r5)])) rfl rfl (hb hby own_d4_48)
  obtain ⟨cl19, Ar19, qk19, Sz19, Nn19, Hs19, Gf19⟩ := id Q5_0
  have hin19 : ¬ ((12 : Int32) < 0 ∨ cl19.slots.size ≤ ((12 : Int32)).toNatClampNeg) := inb_of Sz19 ⟨by decide, by decide⟩
  have hat19 : cl19.slots[((12 : Int32)).toNatClampNeg]? = some (.ref w_PINGRESP) := Has.at Hs19 hin19 rfl
  obtain ⟨T20, X20, e20, st20⟩ := getF X18 hx hZ hown (host := "") (Or.inl (hw _ (List.mem_of_getElem? (i := 13) rfl))) Via.refl e18 f13 (g := (mkF m 60 #[.val (.int (208 : Int32)), .val (.int (13 : Int32)), .val (.ref w_PINGRESP), .val (.int (0 : Int32))] [(.ref w_PINGRESP)])) rfl rfl (hb hby own_d4_60)
  obtain ⟨T21, X21, e21, st21⟩ := getF X20 hx hZ hown (host := "") (Or.inl (hw _ (List.mem_of_getElem? (i := 13) rfl))) Via.refl e20 f13 (g := (mkF m 69 #[.val (.int (208 : Int32)), .val (.int (13 : Int32)), .val (.ref w_PINGRESP), .val (.int (0 : Int32))] [(.ref w_PINGRESP), (.int (0 : Int32))])) rfl rfl (hb hby own_d4_69)
  obtain ⟨fs, hr, hrun, hended, hW, hsame⟩ := X21.leave (v := some (.ref w_PINGRESP)) (fun h => by rw [Bd.returns] at h; cases h)
  refine ⟨_, _, pre0 _ ?_, hrun, hended, _, _, rfl, ?_, ⟨_, rfl⟩, hW, hsame.mono (by decide) (by decide)⟩
  · show Steps p.tables e below (s₁.setTop (mkF m 0 #[.val (.int (208 : Int32)), .unset, .unset, .unset] [])) _
    refine XS.iloadN X0.here hx rfl (hb hby own_d4_0) rfl ?_
    show Steps p.tables e below (s₁.setTop (mkF m 1 #[.val (.int (208 : Int32)), .unset, .unset, .unset] [(.int (208 : Int32))])) _
    refine XS.iconst X0.here hx rfl (hb hby own_d4_1) ?_
    show Steps p.tables e below (s₁.setTop (mkF m 2 #[.val (.int (208 : Int32)), .unset, .unset, .unset] [(.int (4 : Int32)), (.int (208 : Int32))])) _
    refine XS.ishr X0.here hx rfl (hb hby own_d4_2) rfl ?_
    show Steps p.tables e below (s₁.setTop (mkF m 3 #[.val (.int (208 : Int32)), .unset, .unset, .unset] [(.int (13 : Int32))])) _
    refine XS.bipush X0.here hx rfl (hb hby own_d4_3) ?_
    show Steps p.tables e below (s₁.setTop (mkF m 5 #[.val (.int (208 : Int32)), .unset, .unset, .unset] [(.int (15 : Int32)), (.int (13 : Int32))])) _
    refine XS.iand X0.here hx rfl (hb hby own_d4_5) rfl ?_
    show Steps p.tables e below (s₁.setTop (mkF m 6 #[.val (.int (208 : Int32)), .unset, .unset, .unset] [(.int (13 : Int32))])) _
    refine XS.istoreN X0.here hx rfl (hb hby own_d4_6) rfl (l' := #[.val (.int (208 : Int32)), .val (.int (13 : Int32)), .unset, .unset]) rfl ?_
    show Steps p.tables e below (s₁.setTop (mkF m 7 #[.val (.int (208 : Int32)), .val (.int (13 : Int32)), .unset, .unset] [])) _
    refine XS.iloadN X0.here hx rfl (hb hby own_d4_7) rfl ?_
    show Steps p.tables e below (s₁.setTop (mkF m 8 #[.val (.int (208 : Int32)), .val (.int (13 : Int32)), .unset, .unset] [(.int (13 : Int32))])) _
    refine st1 _ ?_
    show Steps p.tables e below (T1.setTop (mkF m 11 #[.val (.int (208 : Int32)), .val (.int (13 : Int32)), .unset, .unset] [(.ref w_CONNECT), (.int (13 : Int32))])) _
    refine st2 _ ?_
    show Steps p.tables e below (T2.setTop (mkF m 14 #[.val (.int (208 : Int32)), .val (.int (13 : Int32)), .unset, .unset] [(.int (1 : Int32)), (.int (13 : Int32))])) _
    refine XS.icmpNo X2.here hx rfl (hb hby own_d4_14) rfl (flt (by decide : ¬ ((13 : Int32) < (1 : Int32)))).1 ?_
    show Steps p.tables e below (T2.setTop (mkF m 17 #[.val (.int (208 : Int32)), .val (.int (13 : Int32)), .unset, .unset] [])) _
    refine XS.iloadN X2.here hx rfl (hb hby own_d4_17) rfl ?_
    show Steps p.tables e below (T2.setTop (mkF m 18 #[.val (.int (208 : Int32)), .val (.int (13 : Int32)), .unset, .unset] [(.int (13 : Int32))])) _
    refine st3 _ ?_
    show Steps p.tables e below (T3.setTop (mkF m 21 #[.val (.int (208 : Int32)), .val (.int (13 : Int32)), .unset, .unset] [(.ref w_DISCONNECT), (.int (13 : Int32))])) _
    refine st4 _ ?_
    show Steps p.tables e below (T4.setTop (mkF m 24 #[.val (.int (208 : Int32)), .val (.int (13 : Int32)), .unset, .unset] [(.int (14 : Int32)), (.int (13 : Int32))])) _
    refine XS.icmpYes X4.here hx rfl (pc0 := 24) (pc' := 41) rfl (hb hby own_d4_24) rfl (flt (by decide : ¬ ((14 : Int32) < (13 : Int32)))).2.2.2 (by decide) (by decide) ?_
    show Steps p.tables e below (T4.setTop (mkF m 41 #[.val (.int (208 : Int32)), .val (.int (13 : Int32)), .unset, .unset] [])) _
    refine st5 _ ?_
    show Steps p.tables e below (T5.setTop (mkF m 44 #[.val (.int (208 : Int32)), .val (.int (13 : Int32)), .unset, .unset] [(.ref r5)])) _
    refine XS.iloadN X5.here hx rfl (hb hby own_d4_44) rfl ?_
    show Steps p.tables e below (T5.setTop (mkF m 45 #[.val (.int (208 : Int32)), .val (.int (13 : Int32)), .unset, .unset] [(.int (13 : Int32)), (.ref r5)])) _
    refine st17 _ ?_
    show Steps p.tables e below (T17.setTop (mkF m 48 #[.val (.int (208 : Int32)), .val (.int (13 : Int32)), .unset, .unset] [(.ref w_CONNECT), (.int (13 : Int32)), (.ref r5)])) _
    refine st18 _ ?_
    show Steps p.tables e below (T18.setTop (mkF m 51 #[.val (.int (208 : Int32)), .val (.int (13 : Int32)), .unset, .unset] [(.int (1 : Int32)), (.int (13 : Int32)), (.ref r5)])) _
    refine XS.isub X18.here hx rfl (hb hby own_d4_51) rfl ?_
    show Steps p.tables e below (T18.setTop (mkF m 52 #[.val (.int (208 : Int32)), .val (.int (13 : Int32)), .unset, .unset] [(.int (12 : Int32)), (.ref r5)])) _
    refine X18.aaload hx (j := (12 : Int32)) (v := (.ref w_PINGRESP)) (by rw [e18]; exact Ar19.1) (State.isArrayOf_alike hZ.alike Ar19.2.1) rfl Ar19.2.2 hin19 hat19 (g := (mkF m 52 #[.val (.int (208 : Int32)), .val (.int (13 : Int32)), .unset, .unset] [(.int (12 : Int32)), (.ref r5)])) rfl rfl (hb hby own_d4_52) _ ?_
    show Steps p.tables e below (T18.setTop (mkF m 53 #[.val (.int (208 : Int32)), .val (.int (13 : Int32)), .unset, .unset] [(.ref w_PINGRESP)])) _
    refine XS.astoreN X18.here hx rfl (hb hby own_d4_53) rfl rfl (l' := #[.val (.int (208 : Int32)), .val (.int (13 : Int32)), .val (.ref w_PINGRESP), .unset]) rfl ?_
    show Steps p.tables e below (T18.setTop (mkF m 54 #[.val (.int (208 : Int32)), .val (.int (13 : Int32)), .val (.ref w_PINGRESP), .unset] [])) _
    refine XS.iloadN X18.here hx rfl (hb hby own_d4_54) rfl ?_
    show Steps p.tables e below (T18.setTop (mkF m 55 #[.val (.int (208 : Int32)), .val (.int (13 : Int32)), .val (.ref w_PINGRESP), .unset] [(.int (208 : Int32))])) _
    refine XS.bipush X18.here hx rfl (hb hby own_d4_55) ?_
    show Steps p.tables e below (T18.setTop (mkF m 57 #[.val (.int (208 : Int32)), .val (.int (13 : Int32)), .val (.ref w_PINGRESP), .unset] [(.int (15 : Int32)), (.int (208 : Int32))])) _
    refine XS.iand X18.here hx rfl (hb hby own_d4_57) rfl ?_
    show Steps p.tables e below (T18.setTop (mkF m 58 #[.val (.int (208 : Int32)), .val (.int (13 : Int32)), .val (.ref w_PINGRESP), .unset] [(.int (0 : Int32))])) _
    refine XS.istoreN X18.here hx rfl (hb hby own_d4_58) rfl (l' := #[.val (.int (208 : Int32)), .val (.int (13 : Int32)), .val (.ref w_PINGRESP), .val (.int (0 : Int32))]) rfl ?_
    show Steps p.tables e below (T18.setTop (mkF m 59 #[.val (.int (208 : Int32)), .val (.int (13 : Int32)), .val (.ref w_PINGRESP), .val (.int (0 : Int32))] [])) _
    refine XS.aloadN X18.here hx rfl (hb hby own_d4_59) rfl rfl ?_
    show Steps p.tables e below (T18.setTop (mkF m 60 #[.val (.int (208 : Int32)), .val (.int (13 : Int32)), .val (.ref w_PINGRESP), .val (.int (0 : Int32))] [(.ref w_PINGRESP)])) _
    refine st20 _ ?_
    show Steps p.tables e below (T20.setTop (mkF m 63 #[.val (.int (208 : Int32)), .val (.int (13 : Int32)), .val (.ref w_PINGRESP), .val (.int (0 : Int32))] [(.int (0 : Int32))])) _
    refine XS.iconst X20.here hx rfl (hb hby own_d4_63) ?_
    show Steps p.tables e below (T20.setTop (mkF m 64 #[.val (.int (208 : Int32)), .val (.int (13 : Int32)), .val (.ref w_PINGRESP), .val (.int (0 : Int32))] [(.int (-1 : Int32)), (.int (0 : Int32))])) _
    refine XS.icmpNo X20.here hx rfl (hb hby own_d4_64) rfl (feq (by decide : ¬ ((0 : Int32) = (-1 : Int32)))).1 ?_
    show Steps p.tables e below (T20.setTop (mkF m 67 #[.val (.int (208 : Int32)), .val (.int (13 : Int32)), .val (.ref w_PINGRESP), .val (.int (0 : Int32))] [])) _
    refine XS.iloadN X20.here hx rfl (hb hby own_d4_67) rfl ?_
    show Steps p.tables e below (T20.setTop (mkF m 68 #[.val (.int (208 : Int32)), .val (.int (13 : Int32)), .val (.ref w_PINGRESP), .val (.int (0 : Int32))] [(.int (0 : Int32))])) _
    refine XS.aloadN X20.here hx rfl (hb hby own_d4_68) rfl rfl ?_
    show Steps p.tables e below (T20.setTop (mkF m 69 #[.val (.int (208 : Int32)), .val (.int (13 : Int32)), .val (.ref w_PINGRESP), .val (.int (0 : Int32))] [(.ref w_PINGRESP), (.int (0 : Int32))])) _
    refine st21 _ ?_
    show Steps p.tables e below (T21.setTop (mkF m 72 #[.val (.int (208 : Int32)), .val (.int (13 : Int32)), .val (.ref w_PINGRESP), .val (.int (0 : Int32))] [(.int (0 : Int32)), (.int (0 : Int32))])) _
    refine XS.icmpYes X21.here hx rfl (pc0 := 72) (pc' := 97) rfl (hb hby own_d4_72) rfl (teq (by decide : (0 : Int32) = (0 : Int32))).1 (by decide) (by decide) ?_
    show Steps p.tables e below (T21.setTop (mkF m 97 #[.val (.int (208 : Int32)), .val (.int (13 : Int32)), .val (.ref w_PINGRESP), .val (.int (0 : Int32))] [])) _
    refine XS.aloadN X21.here hx rfl (hb hby own_d4_97) rfl rfl ?_
    show Steps p.tables e below (T21.setTop (mkF m 98 #[.val (.int (208 : Int32)), .val (.int (13 : Int32)), .val (.ref w_PINGRESP), .val (.int (0 : Int32))] [(.ref w_PINGRESP)])) _
    jvm_step X21.here [X21.here.top, hx, (hb hby own_d4_98), X21.method', Bd.returns, Value.isRef, FieldType.isReference]
    first | (intro acts; rw [hr _ acts rfl rfl rfl]) | rw [hr _ _ rfl rfl rfl]
    exact Steps.refl _
  · show own_v208_Q4 Z w_CONNECT w_DISCONNECT k_w__VALUES w_CONNACK w_PUBLISH w_PUBACK w_PUBREC w_PUBREL w_PUBCOMP w_SUBSCRIBE w_SUBACK w_UNSUBSCRIBE w_UNSUBACK w_PINGREQ w_PINGRESP w__VALUES h0 n0 _ T21.heap _
    rw [e21]
    exact ⟨(by rw [own_v208_f4]), N16, K15⟩
-- body 4, variant 224
theorem own_v224_ef4 (m : MethodId)  : entryFrame m #[(.int (224 : Int32))] 4 = mkF m 0 #[.val (.int (224 : Int32)), .unset, .unset, .unset] [] := by first | (simp [entryFrame, mkF, argsToLocals, Value.category]; done) | rfl
def own_v224_f4 (w_DISCONNECT : Addr) : Addr := w_DISCONNECT
def own_v224_Q4 (Z : State) (w_CONNECT : Addr) (w_DISCONNECT : Addr) (k_w__VALUES : ClassId) (w_CONNACK : Addr) (w_PUBLISH : Addr) (w_PUBACK : Addr) (w_PUBREC : Addr) (w_PUBREL : Addr) (w_PUBCOMP : Addr) (w_SUBSCRIBE : Addr) (w_SUBACK : Addr) (w_UNSUBSCRIBE : Addr) (w_UNSUBACK : Addr) (w_PINGREQ : Addr) (w_PINGRESP : Addr) (w__VALUES : Addr) (h0 : Heap) (n0 : Nat) (v : Option Value) (h : Heap) (L : List Loc) : Prop := v = some (.ref (own_v224_f4 w_DISCONNECT)) ∧ Fr n0 L ∧ Keep h0 h []
set_option maxRecDepth 65536 in
set_option maxHeartbeats 40000000 in
theorem own_v224_rm4 (l : Launch) (Z : State) (a0 : Array Value) (hw : ∀ d ∈ tables_1, d.before a0 Z = true) (ws : List Jvm.Cond) (w_CONNECT : Addr) (w_DISCONNECT : Addr) (k_w__VALUES : ClassId) (w_CONNACK : Addr) (w_PUBLISH : Addr) (w_PUBACK : Addr) (w_PUBREC : Addr) (w_PUBREL : Addr) (w_PUBCOMP : Addr) (w_SUBSCRIBE : Addr) (w_SUBACK : Addr) (w_UNSUBSCRIBE : Addr) (w_UNSUBACK : Addr) (w_PINGREQ : Addr) (w_PINGRESP : Addr) (w__VALUES : Addr) (h0 : Heap) (n0 : Nat) (Z0 : n0 ≤ h0.size) (S_CONNECT : Sta Z h0 "com/example/castd/castd/mqtt/PacketType" "CONNECT" "Lcom/example/castd/castd/mqtt/PacketType;" (.ref w_CONNECT)) (F_code_w_CONNECT : Fld Z h0 w_CONNECT "com/example/castd/castd/mqtt/PacketType" "code" "I" (.int (1 : Int32))) (S_DISCONNECT : Sta Z h0 "com/example/castd/castd/mqtt/PacketType" "DISCONNECT" "Lcom/example/castd/castd/mqtt/PacketType;" (.ref w_DISCONNECT)) (F_code_w_DISCONNECT : Fld Z h0 w_DISCONNECT "com/example/castd/castd/mqtt/PacketType" "code" "I" (.int (14 : Int32))) (V_w__VALUES : Arv Z h0 w__VALUES k_w__VALUES (.object "com/example/castd/castd/mqtt/PacketType") (14 : Int32) [(.ref w_CONNECT), (.ref w_CONNACK), (.ref w_PUBLISH), (.ref w_PUBACK), (.ref w_PUBREC), (.ref w_PUBREL), (.ref w_PUBCOMP), (.ref w_SUBSCRIBE), (.ref w_SUBACK), (.ref w_UNSUBSCRIBE), (.ref w_UNSUBACK), (.ref w_PINGREQ), (.ref w_PINGRESP), (.ref w_DISCONNECT)] .null) (S__VALUES : Sta Z h0 "com/example/castd/castd/mqtt/PacketType" "$VALUES" "[Lcom/example/castd/castd/mqtt/PacketType;" (.ref w__VALUES)) (E_w__VALUES : Exa Z h0 w__VALUES "[Lcom/example/castd/castd/mqtt/PacketType;") (F_requiredFlags_w_DISCONNECT : Fld Z h0 w_DISCONNECT "com/example/castd/castd/mqtt/PacketType" "requiredFlags" "I" (.int (0 : Int32))) :
    MetFree l (⟨"com/example/castd/castd/mqtt/PacketType", "fromFirstByte", "(I)Lcom/example/castd/castd/mqtt/PacketType;"⟩ : MethodName) (head1 (Jvm.Cond.code (⟨"com/example/castd/castd/mqtt/PacketType", "fromFirstByte", "(I)Lcom/example/castd/castd/mqtt/PacketType;"⟩ : MethodName) prog_85_method_4_code 4 (some (.object "com/example/castd/castd/mqtt/PacketType")) :: ws) ({ frames := 2, cells := 1, slots := 14, locals := 25 } : Room)) (fun a U => a = #[(.int (224 : Int32))] ∧ Z.Warmed39 U.vm ∧ U.heap = h0) (fun _ _ _ _ _ => True) (fun _ U o U' => ∃ v L, o = .returned v ∧ own_v224_Q4 Z w_CONNECT w_DISCONNECT k_w__VALUES w_CONNACK w_PUBLISH w_PUBACK w_PUBREC w_PUBREL w_PUBCOMP w_SUBSCRIBE w_SUBACK w_UNSUBSCRIBE w_UNSUBACK w_PINGREQ w_PINGRESP w__VALUES h0 n0 v U'.heap L ∧ FrameEnd U o U' L ({ frames := 2, cells := 1, slots := 14, locals := 25 } : Room).cells ({ frames := 2, cells := 1, slots := 14, locals := 25 } : Room).slots) := by
  refine MetFree.of_bodySF (plainFor_of_name own_pn32) hisR ?_
  intro p e s m args below meth c s₁ Bd hml0 hP hK
  obtain ⟨rfl, hZ, hh⟩ := hP
  have hx := Bd.exec
  have hby := Bd.bytes
  have hml : c.maxLocals = 4 := hml0
  have hown : s.vm.findClass "com/example/castd/castd/mqtt/PacketType" = some m.cls := findClass_of_methodNamed Bd.named
  have hnm := (name_of_methodNamed Bd.named Bd.method).1
  have X0 : Stand p l e ({ frames := 2, cells := 1, slots := 14, locals := 25 } : Room) s m #[(.int (224 : Int32))] below meth c s₁ [] 0 0 := Stand.of_body Bd
  have e0 : s₁.heap = h0 := by rw [← hh, Bd.state]; rfl
  have N0 := Fr.nil n0
  have pre0 : ∀ t, Steps p.tables e below (s₁.setTop (mkF m 0 #[.val (.int (224 : Int32)), .unset, .unset, .unset] [])) t → Steps p.tables e below (s₁.setTop (entryFrame m #[(.int (224 : Int32))] 4)) t := fun t k => castTop (own_v224_ef4 m ) k
  obtain ⟨T1, X1, e1, st1⟩ := getS2 X0 hx hZ hown (host := "") (Or.inl (hw _ (List.mem_of_getElem? (i := 23) rfl))) Via.refl e0 S_CONNECT (g := (mkF m 8 #[.val (.int (224 : Int32)), .val (.int (14 : Int32)), .unset, .unset] [(.int (14 : Int32))])) rfl (hb hby own_d4_8)
  obtain ⟨T2, X2, e2, st2⟩ := getF X1 hx hZ hown (host := "") (Or.inl (hw _ (List.mem_of_getElem? (i := 15) rfl))) Via.refl e1 F_code_w_CONNECT (g := (mkF m 11 #[.val (.int (224 : Int32)), .val (.int (14 : Int32)), .unset, .unset] [(.ref w_CONNECT), (.int (14 : Int32))])) rfl rfl (hb hby own_d4_11)
  obtain ⟨T3, X3, e3, st3⟩ := getS2 X2 hx hZ hown (host := "") (Or.inl (hw _ (List.mem_of_getElem? (i := 24) rfl))) Via.refl e2 S_DISCONNECT (g := (mkF m 18 #[.val (.int (224 : Int32)), .val (.int (14 : Int32)), .unset, .unset] [(.int (14 : Int32))])) rfl (hb hby own_d4_18)
  obtain ⟨T4, X4, e4, st4⟩ := getF X3 hx hZ hown (host := "") (Or.inl (hw _ (List.mem_of_getElem? (i := 15) rfl))) Via.refl e3 F_code_w_DISCONNECT (g := (mkF m 21 #[.val (.int (224 : Int32)), .val (.int (14 : Int32)), .unset, .unset] [(.ref w_DISCONNECT), (.int (14 : Int32))])) rfl rfl (hb hby own_d4_21)
  obtain ⟨v5, _, ⟨T5, L5, k5, n5⟩, -, X5, ⟨Lc5, hQ5, l5, y5, z5⟩, st5⟩ := Jvm.LawKit.callS X4 hx (y := (⟨"com/example/castd/castd/mqtt/PacketType", "values", "()[Lcom/example/castd/castd/mqtt/PacketType;"⟩ : MethodName)) hown (mvT hZ (hw _ (List.mem_of_getElem? (i := 26) rfl))) (mvT hZ (hw _ (List.mem_of_getElem? (i := 27) rfl))) (mvT hZ (hw _ (List.mem_of_getElem? (i := 6) rfl))) (mvT hZ (hw _ (List.mem_of_getElem? (i := 28) rfl))) (by decide) (backOf (W := 0) (own_rm5 l Z a0 hw [] k_w__VALUES w_CONNECT w_CONNACK w_PUBLISH w_PUBACK w_PUBREC w_PUBREL w_PUBCOMP w_SUBSCRIBE w_SUBACK w_UNSUBSCRIBE w_UNSUBACK w_PINGREQ w_PINGRESP w_DISCONNECT w__VALUES h0 n0 Z0 V_w__VALUES S__VALUES E_w__VALUES) hZ (hw _ (List.mem_of_getElem? (i := 28) rfl)) (hw _ (List.mem_of_getElem? (i := 6) rfl)) (by decide) (by decide)) (g := (mkF m 41 #[.val (.int (224 : Int32)), .val (.int (14 : Int32)), .unset, .unset] [])) rfl (by rw [hml]; rfl) (argsL := []) (rest := []) (lenOf own_pd82 rfl) rfl (by show 2 * 0 + _ ≤ _; exact Nat.le_of_eq rfl) (hb hby own_d4_41) (fun _ _ => ⟨rfl, e4, (by decide : 0 + 1 ≤ _), (by decide : 0 + 14 ≤ _)⟩)
  dsimp only [Pt.U, Pt.locs, Pt.cells, Pt.slots] at X5 l5 y5 z5 st5 hQ5
  subst l5 y5 z5
  obtain ⟨r5, rfl, N5q, K5, hr5, Q5_0, Q5_1⟩ := hQ5
  have ne_w_CONNECT_r5 : w_CONNECT ≠ r5 := Nat.ne_of_lt (Nat.lt_of_lt_of_le F_code_w_CONNECT.lt hr5)
  have ne_w_DISCONNECT_r5 : w_DISCONNECT ≠ r5 := Nat.ne_of_lt (Nat.lt_of_lt_of_le F_code_w_DISCONNECT.lt hr5)
  have ne_w__VALUES_r5 : w__VALUES ≠ r5 := Nat.ne_of_lt (Nat.lt_of_lt_of_le V_w__VALUES.lt hr5)
  have g_r5 : n0 ≤ r5 := Nat.le_trans Z0 hr5
  have sz_r5 : h0.size ≤ r5 := hr5
  have f6 := own_staKeep S_CONNECT K5
  have f7 := F_code_w_CONNECT.keep K5 nin0
  have f8 := own_staKeep S_DISCONNECT K5
  have f9 := F_code_w_DISCONNECT.keep K5 nin0
  have f10 := V_w__VALUES.keep K5 nin0
  have f11 := own_staKeep S__VALUES K5
  have f12 := E_w__VALUES.keep K5
  have f13 := F_requiredFlags_w_DISCONNECT.keep K5 nin0
  have Z14 := Nat.le_trans Z0 K5.1
  have K15 : Keep h0 T5.heap [] := Keep.trans (Keep.refl h0 _) K5 all0
  have N16 := Fr.app N0 N5q
  obtain ⟨T17, X17, e17, st17⟩ := getS2 X5 hx hZ hown (host := "") (Or.inl (hw _ (List.mem_of_getElem? (i := 23) rfl))) Via.refl rfl f6 (g := (mkF m 45 #[.val (.int (224 : Int32)), .val (.int (14 : Int32)), .unset, .unset] [(.int (14 : Int32)), (.ref r5)])) rfl (hb hby own_d4_45)
  obtain ⟨T18, X18, e18, st18⟩ := getF X17 hx hZ hown (host := "") (Or.inl (hw _ (List.mem_of_getElem? (i := 15) rfl))) Via.refl e17 f7 (g := (mkF m 48 #[.val (.int (224 : Int32)), .val (.int (14 : Int32)), .unset, .unset] [(.ref w_CONNECT), (.int (14 : Int32)), (.ref r5)])) rfl rfl (hb hby own_d4_48)
  obtain ⟨cl19, Ar19, qk19, Sz19, Nn19, Hs19, Gf19⟩ := id Q5_0
  have hin19 : ¬ ((13 : Int32) < 0 ∨ cl19.slots.size ≤ ((13 : Int32)).toNatClampNeg) := inb_of Sz19 ⟨by decide, by decide⟩
  have hat19 : cl19.slots[((13 : Int32)).toNatClampNeg]? = some (.ref w_DISCONNECT) := Has.at Hs19 hin19 rfl
  obtain ⟨T20, X20, e20, st20⟩ := getF X18 hx hZ hown (host := "") (Or.inl (hw _ (List.mem_of_getElem? (i := 13) rfl))) Via.refl e18 f13 (g := (mkF m 60 #[.val (.int (224 : Int32)), .val (.int (14 : Int32)), .val (.ref w_DISCONNECT), .val (.int (0 : Int32))] [(.ref w_DISCONNECT)])) rfl rfl (hb hby own_d4_60)
  obtain ⟨T21, X21, e21, st21⟩ := getF X20 hx hZ hown (host := "") (Or.inl (hw _ (List.mem_of_getElem? (i := 13) rfl))) Via.refl e20 f13 (g := (mkF m 69 #[.val (.int (224 : Int32)), .val (.int (14 : Int32)), .val (.ref w_DISCONNECT), .val (.int (0 : Int32))] [(.ref w_DISCONNECT), (.int (0 : Int32))])) rfl rfl (hb hby own_d4_69)
  obtain ⟨fs, hr, hrun, hended, hW, hsame⟩ := X21.leave (v := some (.ref w_DISCONNECT)) (fun h => by rw [Bd.returns] at h; cases h)
  refine ⟨_, _, pre0 _ ?_, hrun, hended, _, _, rfl, ?_, ⟨_, rfl⟩, hW, hsame.mono (by decide) (by decide)⟩
  · show Steps p.tables e below (s₁.setTop (mkF m 0 #[.val (.int (224 : Int32)), .unset, .unset, .unset] [])) _
    refine XS.iloadN X0.here hx rfl (hb hby own_d4_0) rfl ?_
    show Steps p.tables e below (s₁.setTop (mkF m 1 #[.val (.int (224 : Int32)), .unset, .unset, .unset] [(.int (224 : Int32))])) _
    refine XS.iconst X0.here hx rfl (hb hby own_d4_1) ?_
    show Steps p.tables e below (s₁.setTop (mkF m 2 #[.val (.int (224 : Int32)), .unset, .unset, .unset] [(.int (4 : Int32)), (.int (224 : Int32))])) _
    refine XS.ishr X0.here hx rfl (hb hby own_d4_2) rfl ?_
    show Steps p.tables e below (s₁.setTop (mkF m 3 #[.val (.int (224 : Int32)), .unset, .unset, .unset] [(.int (14 : Int32))])) _
    refine XS.bipush X0.here hx rfl (hb hby own_d4_3) ?_
    show Steps p.tables e below (s₁.setTop (mkF m 5 #[.val (.int (224 : Int32)), .unset, .unset, .unset] [(.int (15 : Int32)), (.int (14 : Int32))])) _
    refine XS.iand X0.here hx rfl (hb hby own_d4_5) rfl ?_
    show Steps p.tables e below (s₁.setTop (mkF m 6 #[.val (.int (224 : Int32)), .unset, .unset, .unset] [(.int (14 : Int32))])) _
    refine XS.istoreN X0.here hx rfl (hb hby own_d4_6) rfl (l' := #[.val (.int (224 : Int32)), .val (.int (14 : Int32)), .unset, .unset]) rfl ?_
    show Steps p.tables e below (s₁.setTop (mkF m 7 #[.val (.int (224 : Int32)), .val (.int (14 : Int32)), .unset, .unset] [])) _
    refine XS.iloadN X0.here hx rfl (hb hby own_d4_7) rfl ?_
    show Steps p.tables e below (s₁.setTop (mkF m 8 #[.val (.int (224 : Int32)), .val (.int (14 : Int32)), .unset, .unset] [(.int (14 : Int32))])) _
    refine st1 _ ?_
    show Steps p.tables e below (T1.setTop (mkF m 11 #[.val (.int (224 : Int32)), .val (.int (14 : Int32)), .unset, .unset] [(.ref w_CONNECT), (.int (14 : Int32))])) _
    refine st2 _ ?_
    show Steps p.tables e below (T2.setTop (mkF m 14 #[.val (.int (224 : Int32)), .val (.int (14 : Int32)), .unset, .unset] [(.int (1 : Int32)), (.int (14 : Int32))])) _
    refine XS.icmpNo X2.here hx rfl (hb hby own_d4_14) rfl (flt (by decide : ¬ ((14 : Int32) < (1 : Int32)))).1 ?_
    show Steps p.tables e below (T2.setTop (mkF m 17 #[.val (.int (224 : Int32)), .val (.int (14 : Int32)), .unset, .unset] [])) _
    refine XS.iloadN X2.here hx rfl (hb hby own_d4_17) rfl ?_
    show Steps p.tables e below (T2.setTop (mkF m 18 #[.val (.int (224 : Int32)), .val (.int (14 : Int32)), .unset, .unset] [(.int (14 : Int32))])) _
    refine st3 _ ?_
    show Steps p.tables e below (T3.setTop (mkF m 21 #[.val (.int (224 : Int32)), .val (.int (14 : Int32)), .unset, .unset] [(.ref w_DISCONNECT), (.int (14 : Int32))])) _
    refine st4 _ ?_
    show Steps p.tables e below (T4.setTop (mkF m 24 #[.val (.int (224 : Int32)), .val (.int (14 : Int32)), .unset, .unset] [(.int (14 : Int32)), (.int (14 : Int32))])) _
    refine XS.icmpYes X4.here hx rfl (pc0 := 24) (pc' := 41) rfl (hb hby own_d4_24) rfl (flt (by decide : ¬ ((14 : Int32) < (14 : Int32)))).2.2.2 (by decide) (by decide) ?_
    show Steps p.tables e below (T4.setTop (mkF m 41 #[.val (.int (224 : Int32)), .val (.int (14 : Int32)), .unset, .unset] [])) _
    refine st5 _ ?_
    show Steps p.tables e below (T5.setTop (mkF m 44 #[.val (.int (224 : Int32)), .val (.int (14 : Int32)), .unset, .unset] [(.ref r5)])) _
    refine XS.iloadN X5.here hx rfl (hb hby own_d4_44) rfl ?_
    show Steps p.tables e below (T5.setTop (mkF m 45 #[.val (.int (224 : Int32)), .val (.int (14 : Int32)), .unset, .unset] [(.int (14 : Int32)), (.ref r5)])) _
    refine st17 _ ?_
    show Steps p.tables e below (T17.setTop (mkF m 48 #[.val (.int (224 : Int32)), .val (.int (14 : Int32)), .unset, .unset] [(.ref w_CONNECT), (.int (14 : Int32)), (.ref r5)])) _
    refine st18 _ ?_
    show Steps p.tables e below (T18.setTop (mkF m 51 #[.val (.int (224 : Int32)), .val (.int (14 : Int32)), .unset, .unset] [(.int (1 : Int32)), (.int (14 : Int32)), (.ref r5)])) _
    refine XS.isub X18.here hx rfl (hb hby own_d4_51) rfl ?_
    show Steps p.tables e below (T18.setTop (mkF m 52 #[.val (.int (224 : Int32)), .val (.int (14 : Int32)), .unset, .unset] [(.int (13 : Int32)), (.ref r5)])) _
    refine X18.aaload hx (j := (13 : Int32)) (v := (.ref w_DISCONNECT)) (by rw [e18]; exact Ar19.1) (State.isArrayOf_alike hZ.alike Ar19.2.1) rfl Ar19.2.2 hin19 hat19 (g := (mkF m 52 #[.val (.int (224 : Int32)), .val (.int (14 : Int32)), .unset, .unset] [(.int (13 : Int32)), (.ref r5)])) rfl rfl (hb hby own_d4_52) _ ?_
    show Steps p.tables e below (T18.setTop (mkF m 53 #[.val (.int (224 : Int32)), .val (.int (14 : Int32)), .unset, .unset] [(.ref w_DISCONNECT)])) _
    refine XS.astoreN X18.here hx rfl (hb hby own_d4_53) rfl rfl (l' := #[.val (.int (224 : Int32)), .val (.int (14 : Int32)), .val (.ref w_DISCONNECT), .unset]) rfl ?_
    show Steps p.tables e below (T18.setTop (mkF m 54 #[.val (.int (224 : Int32)), .val (.int (14 : Int32)), .val (.ref w_DISCONNECT), .unset] [])) _
    refine XS.iloadN X18.here hx rfl (hb hby own_d4_54) rfl ?_
    show Steps p.tables e below (T18.setTop (mkF m 55 #[.val (.int (224 : Int32)), .val (.int (14 : Int32)), .val (.ref w_DISCONNECT), .unset] [(.int (224 : Int32))])) _
    refine XS.bipush X18.here hx rfl (hb hby own_d4_55) ?_
    show Steps p.tables e below (T18.setTop (mkF m 57 #[.val (.int (224 : Int32)), .val (.int (14 : Int32)), .val (.ref w_DISCONNECT), .unset] [(.int (15 : Int32)), (.int (224 : Int32))])) _
    refine XS.iand X18.here hx rfl (hb hby own_d4_57) rfl ?_
    show Steps p.tables e below (T18.setTop (mkF m 58 #[.val (.int (224 : Int32)), .val (.int (14 : Int32)), .val (.ref w_DISCONNECT), .unset] [(.int (0 : Int32))])) _
    refine XS.istoreN X18.here hx rfl (hb hby own_d4_58) rfl (l' := #[.val (.int (224 : Int32)), .val (.int (14 : Int32)), .val (.ref w_DISCONNECT), .val (.int (0 : Int32))]) rfl ?_
    show Steps p.tables e below (T18.setTop (mkF m 59 #[.val (.int (224 : Int32)), .val (.int (14 : Int32)), .val (.ref w_DISCONNECT), .val (.int (0 : Int32))] [])) _
    refine XS.aloadN X18.here hx rfl (hb hby own_d4_59) rfl rfl ?_
    show Steps p.tables e below (T18.setTop (mkF m 60 #[.val (.int (224 : Int32)), .val (.int (14 : Int32)), .val (.ref w_DISCONNECT), .val (.int (0 : Int32))] [(.ref w_DISCONNECT)])) _
    refine st20 _ ?_
    show Steps p.tables e below (T20.setTop (mkF m 63 #[.val (.int (224 : Int32)), .val (.int (14 : Int32)), .val (.ref w_DISCONNECT), .val (.int (0 : Int32))] [(.int (0 : Int32))])) _
    refine XS.iconst X20.here hx rfl (hb hby own_d4_63) ?_
    show Steps p.tables e below (T20.setTop (mkF m 64 #[.val (.int (224 : Int32)), .val (.int (14 : Int32)), .val (.ref w_DISCONNECT), .val (.int (0 : Int32))] [(.int (-1 : Int32)), (.int (0 : Int32))])) _
    refine XS.icmpNo X20.here hx rfl (hb hby own_d4_64) rfl (feq (by decide : ¬ ((0 : Int32) = (-1 : Int32)))).1 ?_
    show Steps p.tables e below (T20.setTop (mkF m 67 #[.val (.int (224 : Int32)), .val (.int (14 : Int32)), .val (.ref w_DISCONNECT), .val (.int (0 : Int32))] [])) _
    refine XS.iloadN X20.here hx rfl (hb hby own_d4_67) rfl ?_
    show Steps p.tables e below (T20.setTop (mkF m 68 #[.val (.int (224 : Int32)), .val (.int (14 : Int32)), .val (.ref w_DISCONNECT), .val (.int (0 : Int32))] [(.int (0 : Int32))])) _
    refine XS.aloadN X20.here hx rfl (hb hby own_d4_68) rfl rfl ?_
    show Steps p.tables e below (T20.setTop (mkF m 69 #[.val (.int (224 : Int32)), .val (.int (14 : Int32)), .val (.ref w_DISCONNECT), .val (.int (0 : Int32))] [(.ref w_DISCONNECT), (.int (0 : Int32))])) _
    refine st21 _ ?_
    show Steps p.tables e below (T21.setTop (mkF m 72 #[.val (.int (224 : Int32)), .val (.int (14 : Int32)), .val (.ref w_DISCONNECT), .val (.int (0 : Int32))] [(.int (0 : Int32)), (.int (0 : Int32))])) _
    refine XS.icmpYes X21.here hx rfl (pc0 := 72) (pc' := 97) rfl (hb hby own_d4_72) rfl (teq (by decide : (0 : Int32) = (0 : Int32))).1 (by decide) (by decide) ?_
    show Steps p.tables e below (T21.setTop (mkF m 97 #[.val (.int (224 : Int32)), .val (.int (14 : Int32)), .val (.ref w_DISCONNECT), .val (.int (0 : Int32))] [])) _
    refine XS.aloadN X21.here hx rfl (hb hby own_d4_97) rfl rfl ?_
    show Steps p.tables e below (T21.setTop (mkF m 98 #[.val (.int (224 : Int32)), .val (.int (14 : Int32)), .val (.ref w_DISCONNECT), .val (.int (0 : Int32))] [(.ref w_DISCONNECT)])) _
    jvm_step X21.here [X21.here.top, hx, (hb hby own_d4_98), X21.method', Bd.returns, Value.isRef, FieldType.isReference]
    first | (intro acts; rw [hr _ acts rfl rfl rfl]) | rw [hr _ _ rfl rfl rfl]
    exact Steps.refl _
  · show own_v224_Q4 Z w_CONNECT w_DISCONNECT k_w__VALUES w_CONNACK w_PUBLISH w_PUBACK w_PUBREC w_PUBREL w_PUBCOMP w_SUBSCRIBE w_SUBACK w_UNSUBSCRIBE w_UNSUBACK w_PINGREQ w_PINGRESP w__VALUES h0 n0 _ T21.heap _
    rw [e21]
    exact ⟨(by rw [own_v224_f4]), N16, K15⟩
-- body 4, variant p
theorem own_vp_ef4 (m : MethodId) (x0 : Int32) : entryFrame m #[(.int x0)] 4 = mkF m 0 #[.val (.int x0), .unset, .unset, .unset] [] := by first | (simp [entryFrame, mkF, argsToLocals, Value.category]; done) | rfl
def own_vp_f4 (w_PUBLISH : Addr) : Addr := w_PUBLISH
def own_vp_Q4 (Z : State) (p1 : Int32) (w_CONNECT : Addr) (w_DISCONNECT : Addr) (k_w__VALUES : ClassId) (w_CONNACK : Addr) (w_PUBLISH : Addr) (w_PUBACK : Addr) (w_PUBREC : Addr) (w_PUBREL : Addr) (w_PUBCOMP : Addr) (w_SUBSCRIBE : Addr) (w_SUBACK : Addr) (w_UNSUBSCRIBE : Addr) (w_UNSUBACK : Addr) (w_PINGREQ : Addr) (w_PINGRESP : Addr) (w__VALUES : Addr) (h0 : Heap) (n0 : Nat) (v : Option Value) (h : Heap) (L : List Loc) : Prop := v = some (.ref (own_vp_f4 w_PUBLISH)) ∧ Fr n0 L ∧ Keep h0 h []
set_option maxRecDepth 65536 in
set_option maxHeartbeats 40000000 in
theorem own_vp_rm4 (l : Launch) (Z : State) (a0 : Array Value) (hw : ∀ d ∈ tables_1, d.before a0 Z = true) (ws : List Jvm.Cond) (p1 : Int32) (w_CONNECT : Addr) (w_DISCONNECT : Addr) (k_w__VALUES : ClassId) (w_CONNACK : Addr) (w_PUBLISH : Addr) (w_PUBACK : Addr) (w_PUBREC : Addr) (w_PUBREL : Addr) (w_PUBCOMP : Addr) (w_SUBSCRIBE : Addr) (w_SUBACK : Addr) (w_UNSUBSCRIBE : Addr) (w_UNSUBACK : Addr) (w_PINGREQ : Addr) (w_PINGRESP : Addr) (w__VALUES : Addr) (h0 : Heap) (n0 : Nat) (Z0 : n0 ≤ h0.size) (hz : ((p1 >>> ((4 : Int32) &&& 31)) &&& (15 : Int32)) = (3 : Int32)) (S_CONNECT : Sta Z h0 "com/example/castd/castd/mqtt/PacketType" "CONNECT" "Lcom/example/castd/castd/mqtt/PacketType;" (.ref w_CONNECT)) (F_code_w_CONNECT : Fld Z h0 w_CONNECT "com/example/castd/castd/mqtt/PacketType" "code" "I" (.int (1 : Int32))) (S_DISCONNECT : Sta Z h0 "com/example/castd/castd/mqtt/PacketType" "DISCONNECT" "Lcom/example/castd/castd/mqtt/PacketType;" (.ref w_DISCONNECT)) (F_code_w_DISCONNECT : Fld Z h0 w_DISCONNECT "com/example/castd/castd/mqtt/PacketType" "code" "I" (.int (14 : Int32))) (V_w__VALUES : Arv Z h0 w__VALUES k_w__VALUES (.object "com/example/castd/castd/mqtt/PacketType") (14 : Int32) [(.ref w_CONNECT), (.ref w_CONNACK), (.ref w_PUBLISH), (.ref w_PUBACK), (.ref w_PUBREC), (.ref w_PUBREL), (.ref w_PUBCOMP), (.ref w_SUBSCRIBE), (.ref w_SUBACK), (.ref w_UNSUBSCRIBE), (.ref w_UNSUBACK), (.ref w_PINGREQ), (.ref w_PINGRESP), (.ref w_DISCONNECT)] .null) (S__VALUES : Sta Z h0 "com/example/castd/castd/mqtt/PacketType" "$VALUES" "[Lcom/example/castd/castd/mqtt/PacketType;" (.ref w__VALUES)) (E_w__VALUES : Exa Z h0 w__VALUES "[Lcom/example/castd/castd/mqtt/PacketType;") (F_requiredFlags_w_PUBLISH : Fld Z h0 w_PUBLISH "com/example/castd/castd/mqtt/PacketType" "requiredFlags" "I" (.int (-1 : Int32))) :
    MetFree l (⟨"com/example/castd/castd/mqtt/PacketType", "fromFirstByte", "(I)Lcom/example/castd/castd/mqtt/PacketType;"⟩ : MethodName) (head1 (Jvm.Cond.code (⟨"com/example/castd/castd/mqtt/PacketType", "fromFirstByte", "(I)Lcom/example/castd/castd/mqtt/PacketType;"⟩ : MethodName) prog_85_method_4_code 4 (some (.object "com/example/castd/castd/mqtt/PacketType")) :: ws) ({ frames := 2, cells := 1, slots := 14, locals := 25 } : Room)) (fun a U => a = #[(.int p1)] ∧ Z.Warmed39 U.vm ∧ U.heap = h0) (fun _ _ _ _ _ => True) (fun _ U o U' => ∃ v L, o = .returned v ∧ own_vp_Q4 Z p1 w_CONNECT w_DISCONNECT k_w__VALUES w_CONNACK w_PUBLISH w_PUBACK w_PUBREC w_PUBREL w_PUBCOMP w_SUBSCRIBE w_SUBACK w_UNSUBSCRIBE w_UNSUBACK w_PINGREQ w_PINGRESP w__VALUES h0 n0 v U'.heap L ∧ FrameEnd U o U' L ({ frames := 2, cells := 1, slots := 14, locals := 25 } : Room).cells ({ frames := 2, cells := 1, slots := 14, locals := 25 } : Room).slots) := by
  refine MetFree.of_bodySF (plainFor_of_name own_pn32) hisR ?_
  intro p e s m args below meth c s₁ Bd hml0 hP hK
  obtain ⟨rfl, hZ, hh⟩ := hP
  have hx := Bd.exec
  have hby := Bd.bytes
  have hml : c.maxLocals = 4 := hml0
  have hown : s.vm.findClass "com/example/castd/castd/mqtt/PacketType" = some m.cls := findClass_of_methodNamed Bd.named
  have hnm := (name_of_methodNamed Bd.named Bd.method).1
  have X0 : Stand p l e ({ frames := 2, cells := 1, slots := 14, locals := 25 } : Room) s m #[(.int p1)] below meth c s₁ [] 0 0 := Stand.of_body Bd
  have e0 : s₁.heap = h0 := by rw [← hh, Bd.state]; rfl
  have N0 := Fr.nil n0
  have pre0 : ∀ t, Steps p.tables e below (s₁.setTop (mkF m 0 #[.val (.int p1), .unset, .unset, .unset] [])) t → Steps p.tables e below (s₁.setTop (entryFrame m #[(.int p1)] 4)) t := fun t k => castTop (own_vp_ef4 m p1) k
  have k1 : ∀ t, Steps p.tables e below (s₁.setTop (mkF m 6 #[.val (.int p1), .unset, .unset, .unset] [(.int ((p1 >>> ((4 : Int32) &&& 31)) &&& (15 : Int32)))])) t → Steps p.tables e below (s₁.setTop (entryFrame m #[(.int p1)] 4)) t := by
    intro t kt
    refine pre0 t ?_
    show Steps p.tables e below (s₁.setTop (mkF m 0 #[.val (.int p1), .unset, .unset, .unset] [])) _
    refine XS.iloadN X0.here hx rfl (hb hby own_d4_0) rfl ?_
    show Steps p.tables e below (s₁.setTop (mkF m 1 #[.val (.int p1), .unset, .unset, .unset] [(.int p1)])) _
    refine XS.iconst X0.here hx rfl (hb hby own_d4_1) ?_
    show Steps p.tables e below (s₁.setTop (mkF m 2 #[.val (.int p1), .unset, .unset, .unset] [(.int (4 : Int32)), (.int p1)])) _
    refine XS.ishr X0.here hx rfl (hb hby own_d4_2) rfl ?_
    show Steps p.tables e below (s₁.setTop (mkF m 3 #[.val (.int p1), .unset, .unset, .unset] [(.int (p1 >>> ((4 : Int32) &&& 31)))])) _
    refine XS.bipush X0.here hx rfl (hb hby own_d4_3) ?_
    show Steps p.tables e below (s₁.setTop (mkF m 5 #[.val (.int p1), .unset, .unset, .unset] [(.int (15 : Int32)), (.int (p1 >>> ((4 : Int32) &&& 31)))])) _
    refine XS.iand X0.here hx rfl (hb hby own_d4_5) rfl ?_
    exact kt
  have hc1 : ((p1 >>> ((4 : Int32) &&& 31)) &&& (15 : Int32)) = (3 : Int32) := hz 
  have k2 : ∀ t, Steps p.tables e below (s₁.setTop (mkF m 6 #[.val (.int p1), .unset, .unset, .unset] [(.int (3 : Int32))])) t → Steps p.tables e below (s₁.setTop (entryFrame m #[(.int p1)] 4)) t := by
    intro t kt
    refine k1 t ?_
    rw [hc1]
    exact kt
  obtain ⟨T3, X3, e3, st3⟩ := getS2 X0 hx hZ hown (host := "") (Or.inl (hw _ (List.mem_of_getElem? (i := 23) rfl))) Via.refl e0 S_CONNECT (g := (mkF m 8 #[.val (.int p1), .val (.int (3 : Int32)), .unset, .unset] [(.int (3 : Int32))])) rfl (hb hby own_d4_8)
  obtain ⟨T4, X4, e4, st4⟩ := getF X3 hx hZ hown (host := "") (Or.inl (hw _ (List.mem_of_getElem? (i := 15) rfl))) Via.refl e3 F_code_w_CONNECT (g := (mkF m 11 #[.val (.int p1), .val (.int (3 : Int32)), .unset, .unset] [(.ref w_CONNECT), (.int (3 : Int32))])) rfl rfl (hb hby own_d4_11)
  obtain ⟨T5, X5, e5, st5⟩ := getS2 X4 hx hZ hown (host := "") (Or.inl (hw _ (List.mem_of_getElem? (i := 24) rfl))) Via.refl e4 S_DISCONNECT (g := (mkF m 18 #[.val (.int p1), .val (.int (3 : Int32)), .unset, .unset] [(.int (3 : Int32))])) rfl (hb hby own_d4_18)
  obtain ⟨T6, X6, e6, st6⟩ := getF X5 hx hZ hown (host := "") (Or.inl (hw _ (List.mem_of_getElem? (i := 15) rfl))) Via.refl e5 F_code_w_DISCONNECT (g := (mkF m 21 #[.val (.int p1), .val (.int (3 : Int32)), .unset, .unset] [(.ref w_DISCONNECT), (.int (3 : Int32))])) rfl rfl (hb hby own_d4_21)
  obtain ⟨v7, _, ⟨T7, L7, k7, n7⟩, -, X7, ⟨Lc7, hQ7, l7, y7, z7⟩, st7⟩ := Jvm.LawKit.callS X6 hx (y := (⟨"com/example/castd/castd/mqtt/PacketType", "values", "()[Lcom/example/castd/castd/mqtt/PacketType;"⟩ : MethodName)) hown (mvT hZ (hw _ (List.mem_of_getElem? (i := 26) rfl))) (mvT hZ (hw _ (List.mem_of_getElem? (i := 27) rfl))) (mvT hZ (hw _ (List.mem_of_getElem? (i := 6) rfl))) (mvT hZ (hw _ (List.mem_of_getElem? (i := 28) rfl))) (by decide) (backOf (W := 0) (own_rm5 l Z a0 hw [] k_w__VALUES w_CONNECT w_CONNACK w_PUBLISH w_PUBACK w_PUBREC w_PUBREL w_PUBCOMP w_SUBSCRIBE w_SUBACK w_UNSUBSCRIBE w_UNSUBACK w_PINGREQ w_PINGRESP w_DISCONNECT w__VALUES h0 n0 Z0 V_w__VALUES S__VALUES E_w__VALUES) hZ (hw _ (List.mem_of_getElem? (i := 28) rfl)) (hw _ (List.mem_of_getElem? (i := 6) rfl)) (by decide) (by decide)) (g := (mkF m 41 #[.val (.int p1), .val (.int (3 : Int32)), .unset, .unset] [])) rfl (by rw [hml]; rfl) (argsL := []) (rest := []) (lenOf own_pd82 rfl) rfl (by show 2 * 0 + _ ≤ _; exact Nat.le_of_eq rfl) (hb hby own_d4_41) (fun _ _ => ⟨rfl, e6, (by decide : 0 + 1 ≤ _), (by decide : 0 + 14 ≤ _)⟩)
  dsimp only [Pt.U, Pt.locs, Pt.cells, Pt.slots] at X7 l7 y7 z7 st7 hQ7
  subst l7 y7 z7
  obtain ⟨r7, rfl, N7q, K7, hr7, Q7_0, Q7_1⟩ := hQ7
  have ne_w_CONNECT_r7 : w_CONNECT ≠ r7 := Nat.ne_of_lt (Nat.lt_of_lt_of_le F_code_w_CONNECT.lt hr7)
  have ne_w_DISCONNECT_r7 : w_DISCONNECT ≠ r7 := Nat.ne_of_lt (Nat.lt_of_lt_of_le F_code_w_DISCONNECT.lt hr7)
  have ne_w__VALUES_r7 : w__VALUES ≠ r7 := Nat.ne_of_lt (Nat.lt_of_lt_of_le V_w__VALUES.lt hr7)
  have ne_w_PUBLISH_r7 : w_PUBLISH ≠ r7 := Nat.ne_of_lt (Nat.lt_of_lt_of_le F_requiredFlags_w_PUBLISH.lt hr7)
  have g_r7 : n0 ≤ r7 := Nat.le_trans Z0 hr7
  have sz_r7 : h0.size ≤ r7 := hr7
  have f8 := own_staKeep S_CONNECT K7
  have f9 := F_code_w_CONNECT.keep K7 nin0
  have f10 := own_staKeep S_DISCONNECT K7
  have f11 := F_code_w_DISCONNECT.keep K7 nin0
  have f12 := V_w__VALUES.keep K7 nin0
  have f13 := own_staKeep S__VALUES K7
  have f14 := E_w__VALUES.keep K7
  have f15 := F_requiredFlags_w_PUBLISH.keep K7 nin0
  have Z16 := Nat.le_trans Z0 K7.1
  have K17 : Keep h0 T7.heap [] := Keep.trans (Keep.refl h0 _) K7 all0
  have N18 := Fr.app N0 N7q
  obtain ⟨T19, X19, e19, st19⟩ := getS2 X7 hx hZ hown (host := "") (Or.inl (hw _ (List.mem_of_getElem? (i := 23) rfl))) Via.refl rfl f8 (g := (mkF m 45 #[.val (.int p1), .val (.int (3 : Int32)), .unset, .unset] [(.int (3 : Int32)), (.ref r7)])) rfl (hb hby own_d4_45)
  obtain ⟨T20, X20, e20, st20⟩ := getF X19 hx hZ hown (host := "") (Or.inl (hw _ (List.mem_of_getElem? (i := 15) rfl))) Via.refl e19 f9 (g := (mkF m 48 #[.val (.int p1), .val (.int (3 : Int32)), .unset, .unset] [(.ref w_CONNECT), (.int (3 : Int32)), (.ref r7)])) rfl rfl (hb hby own_d4_48)
  obtain ⟨cl21, Ar21, qk21, Sz21, Nn21, Hs21, Gf21⟩ := id Q7_0
  have hin21 : ¬ ((2 : Int32) < 0 ∨ cl21.slots.size ≤ ((2 : Int32)).toNatClampNeg) := inb_of Sz21 ⟨by decide, by decide⟩
  have hat21 : cl21.slots[((2 : Int32)).toNatClampNeg]? = some (.ref w_PUBLISH) := Has.at Hs21 hin21 rfl
  obtain ⟨T22, X22, e22, st22⟩ := getF X20 hx hZ hown (host := "") (Or.inl (hw _ (List.mem_of_getElem? (i := 13) rfl))) Via.refl e20 f15 (g := (mkF m 60 #[.val (.int p1), .val (.int (3 : Int32)), .val (.ref w_PUBLISH), .val (.int (p1 &&& (15 : Int32)))] [(.ref w_PUBLISH)])) rfl rfl (hb hby own_d4_60)
  obtain ⟨fs, hr, hrun, hended, hW, hsame⟩ := X22.leave (v := some (.ref w_PUBLISH)) (fun h => by rw [Bd.returns] at h; cases h)
  refine ⟨_, _, k2 _ ?_, hrun, hended, _, _, rfl, ?_, ⟨_, rfl⟩, hW, hsame.mono (by decide) (by decide)⟩
  · show Steps p.tables e below (s₁.setTop (mkF m 6 #[.val (.int p1), .unset, .unset, .unset] [(.int (3 : Int32))])) _
    refine XS.istoreN X0.here hx rfl (hb hby own_d4_6) rfl (l' := #[.val (.int p1), .val (.int (3 : Int32)), .unset, .unset]) rfl ?_
    show Steps p.tables e below (s₁.setTop (mkF m 7 #[.val (.int p1), .val (.int (3 : Int32)), .unset, .unset] [])) _
    refine XS.iloadN X0.here hx rfl (hb hby own_d4_7) rfl ?_
    show Steps p.tables e below (s₁.setTop (mkF m 8 #[.val (.int p1), .val (.int (3 : Int32)), .unset, .unset] [(.int (3 : Int32))])) _
    refine st3 _ ?_
    show Steps p.tables e below (T3.setTop (mkF m 11 #[.val (.int p1), .val (.int (3 : Int32)), .unset, .unset] [(.ref w_CONNECT), (.int (3 : Int32))])) _
    refine st4 _ ?_
    show Steps p.tables e below (T4.setTop (mkF m 14 #[.val (.int p1), .val (.int (3 : Int32)), .unset, .unset] [(.int (1 : Int32)), (.int (3 : Int32))])) _
    refine XS.icmpNo X4.here hx rfl (hb hby own_d4_14) rfl (flt (by decide : ¬ ((3 : Int32) < (1 : Int32)))).1 ?_
    show Steps p.tables e below (T4.setTop (mkF m 17 #[.val (.int p1), .val (.int (3 : Int32)), .unset, .unset] [])) _
    refine XS.iloadN X4.here hx rfl (hb hby own_d4_17) rfl ?_
    show Steps p.tables e below (T4.setTop (mkF m 18 #[.val (.int p1), .val (.int (3 : Int32)), .unset, .unset] [(.int (3 : Int32))])) _
    refine st5 _ ?_
    show Steps p.tables e below (T5.setTop (mkF m 21 #[.val (.int p1), .val (.int (3 : Int32)), .unset, .unset] [(.ref w_DISCONNECT), (.int (3 : Int32))])) _
    refine st6 _ ?_
    show Steps p.tables e below (T6.setTop (mkF m 24 #[.val (.int p1), .val (.int (3 : Int32)), .unset, .unset] [(.int (14 : Int32)), (.int (3 : Int32))])) _
    refine XS.icmpYes X6.here hx rfl (pc0 := 24) (pc' := 41) rfl (hb hby own_d4_24) rfl (flt (by decide : ¬ ((14 : Int32) < (3 : Int32)))).2.2.2 (by decide) (by decide) ?_
    show Steps p.tables e below (T6.setTop (mkF m 41 #[.val (.int p1), .val (.int (3 : Int32)), .unset, .unset] [])) _
    refine st7 _ ?_
    show Steps p.tables e below (T7.setTop (mkF m 44 #[.val (.int p1), .val (.int (3 : Int32)), .unset, .unset] [(.ref r7)])) _
    refine XS.iloadN X7.here hx rfl (hb hby own_d4_44) rfl ?_
    show Steps p.tables e below (T7.setTop (mkF m 45 #[.val (.int p1), .val (.int (3 : Int32)), .unset, .unset] [(.int (3 : Int32)), (.ref r7)])) _
    refine st19 _ ?_
    show Steps p.tables e below (T19.setTop (mkF m 48 #[.val (.int p1), .val (.int (3 : Int32)), .unset, .unset] [(.ref w_CONNECT), (.int (3 : Int32)), (.ref r7)])) _
    refine st20 _ ?_
    show Steps p.tables e below (T20.setTop (mkF m 51 #[.val (.int p1), .val (.int (3 : Int32)), .unset, .unset] [(.int (1 : Int32)), (.int (3 : Int32)), (.ref r7)])) _
    refine XS.isub X20.here hx rfl (hb hby own_d4_51) rfl ?_
    show Steps p.tables e below (T20.setTop (mkF m 52 #[.val (.int p1), .val (.int (3 : Int32)), .unset, .unset] [(.int (2 : Int32)), (.ref r7)])) _
    refine X20.aaload hx (j := (2 : Int32)) (v := (.ref w_PUBLISH)) (by rw [e20]; exact Ar21.1) (State.isArrayOf_alike hZ.alike Ar21.2.1) rfl Ar21.2.2 hin21 hat21 (g := (mkF m 52 #[.val (.int p1), .val (.int (3 : Int32)), .unset, .unset] [(.int (2 : Int32)), (.ref r7)])) rfl rfl (hb hby own_d4_52) _ ?_
    show Steps p.tables e below (T20.setTop (mkF m 53 #[.val (.int p1), .val (.int (3 : Int32)), .unset, .unset] [(.ref w_PUBLISH)])) _
    refine XS.astoreN X20.here hx rfl (hb hby own_d4_53) rfl rfl (l' := #[.val (.int p1), .val (.int (3 : Int32)), .val (.ref w_PUBLISH), .unset]) rfl ?_
    show Steps p.tables e below (T20.setTop (mkF m 54 #[.val (.int p1), .val (.int (3 : Int32)), .val (.ref w_PUBLISH), .unset] [])) _
    refine XS.iloadN X20.here hx rfl (hb hby own_d4_54) rfl ?_
    show Steps p.tables e below (T20.setTop (mkF m 55 #[.val (.int p1), .val (.int (3 : Int32)), .val (.ref w_PUBLISH), .unset] [(.int p1)])) _
    refine XS.bipush X20.here hx rfl (hb hby own_d4_55) ?_
    show Steps p.tables e below (T20.setTop (mkF m 57 #[.val (.int p1), .val (.int (3 : Int32)), .val (.ref w_PUBLISH), .unset] [(.int (15 : Int32)), (.int p1)])) _
    refine XS.iand X20.here hx rfl (hb hby own_d4_57) rfl ?_
    show Steps p.tables e below (T20.setTop (mkF m 58 #[.val (.int p1), .val (.int (3 : Int32)), .val (.ref w_PUBLISH), .unset] [(.int (p1 &&& (15 : Int32)))])) _
    refine XS.istoreN X20.here hx rfl (hb hby own_d4_58) rfl (l' := #[.val (.int p1), .val (.int (3 : Int32)), .val (.ref w_PUBLISH), .val (.int (p1 &&& (15 : Int32)))]) rfl ?_
    show Steps p.tables e below (T20.setTop (mkF m 59 #[.val (.int p1), .val (.int (3 : Int32)), .val (.ref w_PUBLISH), .val (.int (p1 &&& (15 : Int32)))] [])) _
    refine XS.aloadN X20.here hx rfl (hb hby own_d4_59) rfl rfl ?_
    show Steps p.tables e below (T20.setTop (mkF m 60 #[.val (.int p1), .val (.int (3 : Int32)), .val (.ref w_PUBLISH), .val (.int (p1 &&& (15 : Int32)))] [(.ref w_PUBLISH)])) _
    refine st22 _ ?_
    show Steps p.tables e below (T22.setTop (mkF m 63 #[.val (.int p1), .val (.int (3 : Int32)), .val (.ref w_PUBLISH), .val (.int (p1 &&& (15 : Int32)))] [(.int (-1 : Int32))])) _
    refine XS.iconst X22.here hx rfl (hb hby own_d4_63) ?_
    show Steps p.tables e below (T22.setTop (mkF m 64 #[.val (.int p1), .val (.int (3 : Int32)), .val (.ref w_PUBLISH), .val (.int (p1 &&& (15 : Int32)))] [(.int (-1 : Int32)), (.int (-1 : Int32))])) _
    refine XS.icmpYes X22.here hx rfl (pc0 := 64) (pc' := 97) rfl (hb hby own_d4_64) rfl (teq (by decide : (-1 : Int32) = (-1 : Int32))).1 (by decide) (by decide) ?_
    show Steps p.tables e below (T22.setTop (mkF m 97 #[.val (.int p1), .val (.int (3 : Int32)), .val (.ref w_PUBLISH), .val (.int (p1 &&& (15 : Int32)))] [])) _
    refine XS.aloadN X22.here hx rfl (hb hby own_d4_97) rfl rfl ?_
    show Steps p.tables e below (T22.setTop (mkF m 98 #[.val (.int p1), .val (.int (3 : Int32)), .val (.ref w_PUBLISH), .val (.int (p1 &&& (15 : Int32)))] [(.ref w_PUBLISH)])) _
    jvm_step X22.here [X22.here.top, hx, (hb hby own_d4_98), X22.method', Bd.returns, Value.isRef, FieldType.isReference]
    first | (intro acts; rw [hr _ acts rfl rfl rfl]) | rw [hr _ _ rfl rfl rfl]
    exact Steps.refl _
  · show own_vp_Q4 Z p1 w_CONNECT w_DISCONNECT k_w__VALUES w_CONNACK w_PUBLISH w_PUBACK w_PUBREC w_PUBREL w_PUBCOMP w_SUBSCRIBE w_SUBACK w_UNSUBSCRIBE w_UNSUBACK w_PINGREQ w_PINGRESP w__VALUES h0 n0 _ T22.heap _
    rw [e22]
    exact ⟨(by rw [own_vp_f4]), N18, K17⟩
-- body 0
theorem own_ef0 (m : MethodId) (x0 : Int32) (x1 : Int32) : entryFrame m #[(.int x0), (.int x1)] maxLocals = mkF m 0 #[.val (.int x0), .val (.int x1), .unset, .unset, .unset, .unset, .unset] [] := by first | (simp [entryFrame, mkF, argsToLocals, Value.category, maxLocals]; done) | rfl
def own_f0 (p1 : Int32) : Int32 := if ((p1 &&& (2147483647 : Int32)) - ((p1 &&& (2147483647 : Int32)) / (14 : Int32)) * (14 : Int32)) = (0 : Int32) then (1 : Int32)
    else if ((p1 &&& (2147483647 : Int32)) - ((p1 &&& (2147483647 : Int32)) / (14 : Int32)) * (14 : Int32)) = (1 : Int32) then (1 : Int32)
      else if ((p1 &&& (2147483647 : Int32)) - ((p1 &&& (2147483647 : Int32)) / (14 : Int32)) * (14 : Int32)) = (2 : Int32) then (1 : Int32)
        else if ((p1 &&& (2147483647 : Int32)) - ((p1 &&& (2147483647 : Int32)) / (14 : Int32)) * (14 : Int32)) = (3 : Int32) then (1 : Int32)
          else if ((p1 &&& (2147483647 : Int32)) - ((p1 &&& (2147483647 : Int32)) / (14 : Int32)) * (14 : Int32)) = (4 : Int32) then (1 : Int32)
            else if ((p1 &&& (2147483647 : Int32)) - ((p1 &&& (2147483647 : Int32)) / (14 : Int32)) * (14 : Int32)) = (5 : Int32) then (1 : Int32)
              else if ((p1 &&& (2147483647 : Int32)) - ((p1 &&& (2147483647 : Int32)) / (14 : Int32)) * (14 : Int32)) = (6 : Int32) then (1 : Int32)
                else if ((p1 &&& (2147483647 : Int32)) - ((p1 &&& (2147483647 : Int32)) / (14 : Int32)) * (14 : Int32)) = (7 : Int32) then (1 : Int32)
                  else if ((p1 &&& (2147483647 : Int32)) - ((p1 &&& (2147483647 : Int32)) / (14 : Int32)) * (14 : Int32)) = (8 : Int32) then (1 : Int32)
                    else if ((p1 &&& (2147483647 : Int32)) - ((p1 &&& (2147483647 : Int32)) / (14 : Int32)) * (14 : Int32)) = (9 : Int32) then (1 : Int32)
                      else if ((p1 &&& (2147483647 : Int32)) - ((p1 &&& (2147483647 : Int32)) / (14 : Int32)) * (14 : Int32)) = (10 : Int32) then (1 : Int32)
                        else if ((p1 &&& (2147483647 : Int32)) - ((p1 &&& (2147483647 : Int32)) / (14 : Int32)) * (14 : Int32)) = (11 : Int32) then (1 : Int32)
                          else if ((p1 &&& (2147483647 : Int32)) - ((p1 &&& (2147483647 : Int32)) / (14 : Int32)) * (14 : Int32)) = (12 : Int32) then (1 : Int32)
                            else (1 : Int32)
def own_Q0 (Z : State) (p1 : Int32) (p2 : Int32) (w_CONNECT : Addr) (w_CONNACK : Addr) (w_PUBLISH : Addr) (w_PUBACK : Addr) (w_PUBREC : Addr) (w_PUBREL : Addr) (w_PUBCOMP : Addr) (w_SUBSCRIBE : Addr) (w_SUBACK : Addr) (w_UNSUBSCRIBE : Addr) (w_UNSUBACK : Addr) (w_PINGREQ : Addr) (w_PINGRESP : Addr) (w_DISCONNECT : Addr) (k_w__VALUES : ClassId) (w__VALUES : Addr) (h0 : Heap) (n0 : Nat) (v : Option Value) (h : Heap) (L : List Loc) : Prop := v = some (.int (own_f0 p1)) ∧ Fr n0 L
set_option maxRecDepth 65536 in
set_option maxHeartbeats 40000000 in
theorem own_rm0 (l : Launch) (Z : State) (a0 : Array Value) (hw : ∀ d ∈ tables_1, d.before a0 Z = true) (ws : List Jvm.Cond) (p1 : Int32) (p2 : Int32) (w_CONNECT : Addr) (w_CONNACK : Addr) (w_PUBLISH : Addr) (w_PUBACK : Addr) (w_PUBREC : Addr) (w_PUBREL : Addr) (w_PUBCOMP : Addr) (w_SUBSCRIBE : Addr) (w_SUBACK : Addr) (w_UNSUBSCRIBE : Addr) (w_UNSUBACK : Addr) (w_PINGREQ : Addr) (w_PINGRESP : Addr) (w_DISCONNECT : Addr) (k_w__VALUES : ClassId) (w__VALUES : Addr) (h0 : Heap) (n0 : Nat) (Z0 : n0 ≤ h0.size) (S_CONNECT : Sta Z h0 "com/example/castd/castd/mqtt/PacketType" "CONNECT" "Lcom/example/castd/castd/mqtt/PacketType;" (.ref w_CONNECT)) (S_CONNACK : Sta Z h0 "com/example/castd/castd/mqtt/PacketType" "CONNACK" "Lcom/example/castd/castd/mqtt/PacketType;" (.ref w_CONNACK)) (S_PUBLISH : Sta Z h0 "com/example/castd/castd/mqtt/PacketType" "PUBLISH" "Lcom/example/castd/castd/mqtt/PacketType;" (.ref w_PUBLISH)) (S_PUBACK : Sta Z h0 "com/example/castd/castd/mqtt/PacketType" "PUBACK" "Lcom/example/castd/castd/mqtt/PacketType;" (.ref w_PUBACK)) (S_PUBREC : Sta Z h0 "com/example/castd/castd/mqtt/PacketType" "PUBREC" "Lcom/example/castd/castd/mqtt/PacketType;" (.ref w_PUBREC)) (S_PUBREL : Sta Z h0 "com/example/castd/castd/mqtt/PacketType" "PUBREL" "Lcom/example/castd/castd/mqtt/PacketType;" (.ref w_PUBREL)) (S_PUBCOMP : Sta Z h0 "com/example/castd/castd/mqtt/PacketType" "PUBCOMP" "Lcom/example/castd/castd/mqtt/PacketType;" (.ref w_PUBCOMP)) (S_SUBSCRIBE : Sta Z h0 "com/example/castd/castd/mqtt/PacketType" "SUBSCRIBE" "Lcom/example/castd/castd/mqtt/PacketType;" (.ref w_SUBSCRIBE)) (S_SUBACK : Sta Z h0 "com/example/castd/castd/mqtt/PacketType" "SUBACK" "Lcom/example/castd/castd/mqtt/PacketType;" (.ref w_SUBACK)) (S_UNSUBSCRIBE : Sta Z h0 "com/example/castd/castd/mqtt/PacketType" "UNSUBSCRIBE" "Lcom/example/castd/castd/mqtt/PacketType;" (.ref w_UNSUBSCRIBE)) (S_UNSUBACK : Sta Z h0 "com/example/castd/castd/mqtt/PacketType" "UNSUBACK" "Lcom/example/castd/castd/mqtt/PacketType;" (.ref w_UNSUBACK)) (S_PINGREQ : Sta Z h0 "com/example/castd/castd/mqtt/PacketType" "PINGREQ" "Lcom/example/castd/castd/mqtt/PacketType;" (.ref w_PINGREQ)) (S_PINGRESP : Sta Z h0 "com/example/castd/castd/mqtt/PacketType" "PINGRESP" "Lcom/example/castd/castd/mqtt/PacketType;" (.ref w_PINGRESP)) (S_DISCONNECT : Sta Z h0 "com/example/castd/castd/mqtt/PacketType" "DISCONNECT" "Lcom/example/castd/castd/mqtt/PacketType;" (.ref w_DISCONNECT)) (F_requiredFlags_w_CONNECT : Fld Z h0 w_CONNECT "com/example/castd/castd/mqtt/PacketType" "requiredFlags" "I" (.int (0 : Int32))) (F_code_w_CONNECT : Fld Z h0 w_CONNECT "com/example/castd/castd/mqtt/PacketType" "code" "I" (.int (1 : Int32))) (E_w_CONNECT : Exa Z h0 w_CONNECT "com/example/castd/castd/mqtt/PacketType") (F_code_w_DISCONNECT : Fld Z h0 w_DISCONNECT "com/example/castd/castd/mqtt/PacketType" "code" "I" (.int (14 : Int32))) (V_w__VALUES : Arv Z h0 w__VALUES k_w__VALUES (.object "com/example/castd/castd/mqtt/PacketType") (14 : Int32) [(.ref w_CONNECT), (.ref w_CONNACK), (.ref w_PUBLISH), (.ref w_PUBACK), (.ref w_PUBREC), (.ref w_PUBREL), (.ref w_PUBCOMP), (.ref w_SUBSCRIBE), (.ref w_SUBACK), (.ref w_UNSUBSCRIBE), (.ref w_UNSUBACK), (.ref w_PINGREQ), (.ref w_PINGRESP), (.ref w_DISCONNECT)] .null) (S__VALUES : Sta Z h0 "com/example/castd/castd/mqtt/PacketType" "$VALUES" "[Lcom/example/castd/castd/mqtt/PacketType;" (.ref w__VALUES)) (E_w__VALUES : Exa Z h0 w__VALUES "[Lcom/example/castd/castd/mqtt/PacketType;") (F_requiredFlags_w_CONNACK : Fld Z h0 w_CONNACK "com/example/castd/castd/mqtt/PacketType" "requiredFlags" "I" (.int (0 : Int32))) (F_code_w_CONNACK : Fld Z h0 w_CONNACK "com/example/castd/castd/mqtt/PacketType" "code" "I" (.int (2 : Int32))) (E_w_CONNACK : Exa Z h0 w_CONNACK "com/example/castd/castd/mqtt/PacketType") (F_requiredFlags_w_PUBLISH : Fld Z h0 w_PUBLISH "com/example/castd/castd/mqtt/PacketType" "requiredFlags" "I" (.int (-1 : Int32))) (F_code_w_PUBLISH : Fld Z h0 w_PUBLISH "com/example/castd/castd/mqtt/PacketType" "code" "I" (.int (3 : Int32))) (E_w_PUBLISH : Exa Z h0 w_PUBLISH "com/example/castd/castd/mqtt/PacketType") (F_requiredFlags_w_PUBACK : Fld Z h0 w_PUBACK "com/example/castd/castd/mqtt/PacketType" "requiredFlags" "I" (.int (0 : Int32))) (F_code_w_PUBACK : Fld Z h0 w_PUBACK "com/example/castd/castd/mqtt/PacketType" "code" "I" (.int (4 : Int32))) (E_w_PUBACK : Exa Z h0 w_PUBACK "com/example/castd/castd/mqtt/PacketType") (F_requiredFlags_w_PUBREC : Fld Z h0 w_PUBREC "com/example/castd/castd/mqtt/PacketType" "requiredFlags" "I" (.int (0 : Int32))) (F_code_w_PUBREC : Fld Z h0 w_PUBREC "com/example/castd/castd/mqtt/PacketType" "code" "I" (.int (5 : Int32))) (E_w_PUBREC : Exa Z h0 w_PUBREC "com/example/castd/castd/mqtt/PacketType") (F_requiredFlags_w_PUBREL : Fld Z h0 w_PUBREL "com/example/castd/castd/mqtt/PacketType" "requiredFlags" "I" (.int (2 : Int32))) (F_code_w_PUBREL : Fld Z h0 w_PUBREL "com/example/castd/castd/mqtt/PacketType" "code" "I" (.int (6 : Int32))) (E_w_PUBREL : Exa Z h0 w_PUBREL "com/example/castd/castd/mqtt/PacketType") (F_requiredFlags_w_PUBCOMP : Fld Z h0 w_PUBCOMP "com/example/castd/castd/mqtt/PacketType" "requiredFlags" "I" (.int (0 : Int32))) (F_code_w_PUBCOMP : Fld Z h0 w_PUBCOMP "com/example/castd/castd/mqtt/PacketType" "code" "I" (.int (7 : Int32))) (E_w_PUBCOMP : Exa Z h0 w_PUBCOMP "com/example/castd/castd/mqtt/PacketType") (F_requiredFlags_w_SUBSCRIBE : Fld Z h0 w_SUBSCRIBE "com/example/castd/castd/mqtt/PacketType" "requiredFlags" "I" (.int (2 : Int32))) (F_code_w_SUBSCRIBE : Fld Z h0 w_SUBSCRIBE "com/example/castd/castd/mqtt/PacketType" "code" "I" (.int (8 : Int32))) (E_w_SUBSCRIBE : Exa Z h0 w_SUBSCRIBE "com/example/castd/castd/mqtt/PacketType") (F_requiredFlags_w_SUBACK : Fld Z h0 w_SUBACK "com/example/castd/castd/mqtt/PacketType" "requiredFlags" "I" (.int (0 : Int32))) (F_code_w_SUBACK : Fld Z h0 w_SUBACK "com/example/castd/castd/mqtt/PacketType" "code" "I" (.int (9 : Int32))) (E_w_SUBACK : Exa Z h0 w_SUBACK "com/example/castd/castd/mqtt/PacketType") (F_requiredFlags_w_UNSUBSCRIBE : Fld Z h0 w_UNSUBSCRIBE "com/example/castd/castd/mqtt/PacketType" "requiredFlags" "I" (.int (2 : Int32))) (F_code_w_UNSUBSCRIBE : Fld Z h0 w_UNSUBSCRIBE "com/example/castd/castd/mqtt/PacketType" "code" "I" (.int (10 : Int32))) (E_w_UNSUBSCRIBE : Exa Z h0 w_UNSUBSCRIBE "com/example/castd/castd/mqtt/PacketType") (F_requiredFlags_w_UNSUBACK : Fld Z h0 w_UNSUBACK "com/example/castd/castd/mqtt/PacketType" "requiredFlags" "I" (.int (0 : Int32))) (F_code_w_UNSUBACK : Fld Z h0 w_UNSUBACK "com/example/castd/castd/mqtt/PacketType" "code" "I" (.int (11 : Int32))) (E_w_UNSUBACK : Exa Z h0 w_UNSUBACK "com/example/castd/castd/mqtt/PacketType") (F_requiredFlags_w_PINGREQ : Fld Z h0 w_PINGREQ "com/example/castd/castd/mqtt/PacketType" "requiredFlags" "I" (.int (0 : Int32))) (F_code_w_PINGREQ : Fld Z h0 w_PINGREQ "com/example/castd/castd/mqtt/PacketType" "code" "I" (.int (12 : Int32))) (E_w_PINGREQ : Exa Z h0 w_PINGREQ "com/example/castd/castd/mqtt/PacketType") (F_requiredFlags_w_PINGRESP : Fld Z h0 w_PINGRESP "com/example/castd/castd/mqtt/PacketType" "requiredFlags" "I" (.int (0 : Int32))) (F_code_w_PINGRESP : Fld Z h0 w_PINGRESP "com/example/castd/castd/mqtt/PacketType" "code" "I" (.int (13 : Int32))) (E_w_PINGRESP : Exa Z h0 w_PINGRESP "com/example/castd/castd/mqtt/PacketType") (F_requiredFlags_w_DISCONNECT : Fld Z h0 w_DISCONNECT "com/example/castd/castd/mqtt/PacketType" "requiredFlags" "I" (.int (0 : Int32))) (E_w_DISCONNECT : Exa Z h0 w_DISCONNECT "com/example/castd/castd/mqtt/PacketType") :
    MetFree l x (head1 (Jvm.Cond.code x code maxLocals ret :: ws) room_1) (fun a U => a = #[(.int p1), (.int p2)] ∧ Z.Warmed39 U.vm ∧ U.heap = h0) (fun _ _ _ _ _ => True) (fun _ U o U' => ∃ v L, o = .returned v ∧ own_Q0 Z p1 p2 w_CONNECT w_CONNACK w_PUBLISH w_PUBACK w_PUBREC w_PUBREL w_PUBCOMP w_SUBSCRIBE w_SUBACK w_UNSUBSCRIBE w_UNSUBACK w_PINGREQ w_PINGRESP w_DISCONNECT k_w__VALUES w__VALUES h0 n0 v U'.heap L ∧ FrameEnd U o U' L room_1.cells room_1.slots) := by
  refine MetFree.of_bodySF (plainFor_of_name own_pn1) hisR ?_
  intro p e s m args below meth c s₁ Bd hml0 hP hK
  obtain ⟨rfl, hZ, hh⟩ := hP
  have hx := Bd.exec
  have hby := Bd.bytes
  have hml : c.maxLocals = 7 := hml0
  have hown : s.vm.findClass "com/example/castd/castd/mqtt/PacketTypeFirstBytePinLaw" = some m.cls := findClass_of_methodNamed Bd.named
  have hnm := (name_of_methodNamed Bd.named Bd.method).1
  have X0 : Stand p l e room_1 s m #[(.int p1), (.int p2)] below meth c s₁ [] 0 0 := Stand.of_body Bd
  have e0 : s₁.heap = h0 := by rw [← hh, Bd.state]; rfl
  have N0 := Fr.nil n0
  have pre0 : ∀ t, Steps p.tables e below (s₁.setTop (mkF m 0 #[.val (.int p1), .val (.int p2), .unset, .unset, .unset, .unset, .unset] [])) t → Steps p.tables e below (s₁.setTop (entryFrame m #[(.int p1), (.int p2)] maxLocals)) t := fun t k => castTop (own_ef0 m p1 p2) k
  have k1 : ∀ t, Steps p.tables e below (s₁.setTop (mkF m 7 #[.val (.int p1), .val (.int p2), .unset, .unset, .unset, .unset, .unset] [(.int ((p1 &&& (2147483647 : Int32)) - ((p1 &&& (2147483647 : Int32)) / (14 : Int32)) * (14 : Int32)))])) t → Steps p.tables e below (s₁.setTop (entryFrame m #[(.int p1), (.int p2)] maxLocals)) t := by
    intro t kt
    refine pre0 t ?_
    show Steps p.tables e below (s₁.setTop (mkF m 0 #[.val (.int p1), .val (.int p2), .unset, .unset, .unset, .unset, .unset] [])) _
    refine XS.iloadN X0.here hx rfl (hb hby at_0) rfl ?_
    show Steps p.tables e below (s₁.setTop (mkF m 1 #[.val (.int p1), .val (.int p2), .unset, .unset, .unset, .unset, .unset] [(.int p1)])) _
    refine X0.ldcInt hx hown (mvT hZ (hw _ (List.mem_of_getElem? (i := 0) rfl))) (g := (mkF m 1 #[.val (.int p1), .val (.int p2), .unset, .unset, .unset, .unset, .unset] [(.int p1)])) rfl (hb hby at_1) _ ?_
    show Steps p.tables e below (s₁.setTop (mkF m 3 #[.val (.int p1), .val (.int p2), .unset, .unset, .unset, .unset, .unset] [(.int (2147483647 : Int32)), (.int p1)])) _
    refine XS.iand X0.here hx rfl (hb hby at_3) rfl ?_
    show Steps p.tables e below (s₁.setTop (mkF m 4 #[.val (.int p1), .val (.int p2), .unset, .unset, .unset, .unset, .unset] [(.int (p1 &&& (2147483647 : Int32)))])) _
    refine XS.bipush X0.here hx rfl (hb hby at_4) ?_
    show Steps p.tables e below (s₁.setTop (mkF m 6 #[.val (.int p1), .val (.int p2), .unset, .unset, .unset, .unset, .unset] [(.int (14 : Int32)), (.int (p1 &&& (2147483647 : Int32)))])) _
    refine XS.irem X0.here hx rfl (hb hby at_6) rfl (by decide) ?_
    exact kt
  by_cases hc1 : ((p1 &&& (2147483647 : Int32)) - ((p1 &&& (2147483647 : Int32)) / (14 : Int32)) * (14 : Int32)) = (0 : Int32)
  ·
    have k2 : ∀ t, Steps p.tables e below (s₁.setTop (mkF m 7 #[.val (.int p1), .val (.int p2), .unset, .unset, .unset, .unset, .unset] [(.int (0 : Int32))])) t → Steps p.tables e below (s₁.setTop (entryFrame m #[(.int p1), (.int p2)] maxLocals)) t := by
      intro t kt
      refine k1 t ?_
      rw [hc1]
      exact kt
    obtain ⟨v3, _, ⟨T3, L3, k3, n3⟩, -, X3, ⟨Lc3, hQ3, l3, y3, z3⟩, st3⟩ := Jvm.LawKit.callS X0 hx (y := (⟨"com/example/castd/castd/mqtt/PacketTypeFirstBytePinLaw", "type", "(I)Lcom/example/castd/castd/mqtt/PacketType;"⟩ : MethodName)) hown (mvT hZ (hw _ (List.mem_of_getElem? (i := 1) rfl))) (mvT hZ (hw _ (List.mem_of_getElem? (i := 2) rfl))) (mvT hZ (hw _ (List.mem_of_getElem? (i := 3) rfl))) (mvT hZ (hw _ (List.mem_of_getElem? (i := 4) rfl))) (by decide) (backOf (W := 0) (own_rm1 l Z a0 hw [] (0 : Int32) w_CONNECT w_CONNACK w_PUBLISH w_PUBACK w_PUBREC w_PUBREL w_PUBCOMP w_SUBSCRIBE w_SUBACK w_UNSUBSCRIBE w_UNSUBACK w_PINGREQ w_PINGRESP w_DISCONNECT h0 n0 Z0 S_CONNECT S_CONNACK S_PUBLISH S_PUBACK S_PUBREC S_PUBREL S_PUBCOMP S_SUBSCRIBE S_SUBACK S_UNSUBSCRIBE S_UNSUBACK S_PINGREQ S_PINGRESP S_DISCONNECT) hZ (hw _ (List.mem_of_getElem? (i := 4) rfl)) (hw _ (List.mem_of_getElem? (i := 3) rfl)) (by decide) (by decide)) (g := (mkF m 9 #[.val (.int p1), .val (.int p2), .val (.int (0 : Int32)), .unset, .unset, .unset, .unset] [(.int (0 : Int32))])) rfl (by rw [hml]; rfl) (argsL := [(.int (0 : Int32))]) (rest := []) (lenOf own_pd119 rfl) rfl (by show 2 * 0 + _ ≤ _; exact Nat.le_of_eq rfl) (hb hby at_9) (fun _ _ => ⟨rfl, e0, (by decide : 0 + 0 ≤ _), (by decide : 0 + 0 ≤ _)⟩)
    dsimp only [Pt.U, Pt.locs, Pt.cells, Pt.slots] at X3 l3 y3 z3 st3 hQ3
    subst l3 y3 z3
    obtain ⟨hv3, N3q, e3⟩ := hQ3
    have N4 := Fr.app N0 N3q
    rw [show (own_f1 (0 : Int32) w_CONNECT w_CONNACK w_PUBLISH w_PUBACK w_PUBREC w_PUBREL w_PUBCOMP w_SUBSCRIBE w_SUBACK w_UNSUBSCRIBE w_UNSUBACK w_PINGREQ w_PINGRESP w_DISCONNECT) = w_CONNECT from by first | rfl | decide | simp [own_f1]] at hv3
    subst hv3
    obtain ⟨cq5, kq5, q5a, q5b, q5c⟩ := isOf hZ e3 E_w_CONNECT
    obtain ⟨v5, _, ⟨T5, L5, k5, n5⟩, -, X5, ⟨Lc5, hQ5, l5, y5, z5⟩, st5⟩ := X3.virtualBack hx (y := (⟨"com/example/castd/castd/mqtt/PacketType", "firstByte", "(I)I"⟩ : MethodName)) (z := (⟨"com/example/castd/castd/mqtt/PacketType", "firstByte", "(I)I"⟩ : MethodName)) hown (mvT hZ (hw _ (List.mem_of_getElem? (i := 8) rfl))) (mvT hZ (hw _ (List.mem_of_getElem? (i := 9) rfl))) (notFace_of_selects (args := #[]) (mvT hZ (hw _ (List.mem_of_getElem? (i := 11) rfl)))) (mvT hZ (hw _ (List.mem_of_getElem? (i := 11) rfl))) (mvT hZ (hw _ (List.mem_of_getElem? (i := 10) rfl))) (by decide) (backOf (W := 0) (own_rm2 l Z a0 hw [] w_CONNECT p2 (0 : Int32) (1 : Int32) h0 n0 Z0 F_requiredFlags_w_CONNECT F_code_w_CONNECT) hZ (hw _ (List.mem_of_getElem? (i := 12) rfl)) (hw _ (List.mem_of_getElem? (i := 6) rfl)) (by decide) (by decide)) q5a q5c (g := (mkF m 31 #[.val (.int p1), .val (.int p2), .val (.int (0 : Int32)), .val (.ref w_CONNECT), .val (.int p2), .unset, .unset] [(.int p2), (.ref w_CONNECT)])) rfl (by rw [hml]; rfl) (Steps.refl _) (argsL := [(.int p2)]) (rest := []) (lenOf own_pd120 rfl) rfl (by show 2 * 0 + _ ≤ _; exact Nat.le_of_eq rfl) (hb hby at_31) (fun _ _ => ⟨rfl, e3, (by decide : 0 + 0 ≤ _), (by decide : 0 + 0 ≤ _)⟩)
    dsimp only [Pt.U, Pt.locs, Pt.cells, Pt.slots] at X5 l5 y5 z5 st5 hQ5
    subst l5 y5 z5
    obtain ⟨hv5, N5q, e5⟩ := hQ5
    have N6 := Fr.app N4 N5q
    rw [show (own_f2 p2 (0 : Int32) (1 : Int32)) = (16 : Int32) from by first | rfl | decide | simp [own_f2]] at hv5
    subst hv5
    obtain ⟨v7, _, ⟨T7, L7, k7, n7⟩, -, X7, ⟨Lc7, hQ7, l7, y7, z7⟩, st7⟩ := Jvm.LawKit.callS X5 hx (y := (⟨"com/example/castd/castd/mqtt/PacketTypeFirstBytePinLaw", "fixed", "(I)I"⟩ : MethodName)) hown (mvT hZ (hw _ (List.mem_of_getElem? (i := 17) rfl))) (mvT hZ (hw _ (List.mem_of_getElem? (i := 18) rfl))) (mvT hZ (hw _ (List.mem_of_getElem? (i := 3) rfl))) (mvT hZ (hw _ (List.mem_of_getElem? (i := 19) rfl))) (by decide) (backOf (W := 0) (own_rm3 l Z a0 hw [] (0 : Int32) h0 n0 Z0) hZ (hw _ (List.mem_of_getElem? (i := 19) rfl)) (hw _ (List.mem_of_getElem? (i := 3) rfl)) (by decide) (by decide)) (g := (mkF m 52 #[.val (.int p1), .val (.int p2), .val (.int (0 : Int32)), .val (.ref w_CONNECT), .val (.int p2), .val (.int (16 : Int32)), .unset] [(.int (0 : Int32))])) rfl (by rw [hml]; rfl) (argsL := [(.int (0 : Int32))]) (rest := []) (lenOf own_pd120 rfl) rfl (by show 2 * 0 + _ ≤ _; exact Nat.le_of_eq rfl) (hb hby at_52) (fun _ _ => ⟨rfl, e5, (by decide : 0 + 0 ≤ _), (by decide : 0 + 0 ≤ _)⟩)
    dsimp only [Pt.U, Pt.locs, Pt.cells, Pt.slots] at X7 l7 y7 z7 st7 hQ7
    subst l7 y7 z7
    obtain ⟨hv7, N7q, e7⟩ := hQ7
    have N8 := Fr.app N6 N7q
    rw [show (own_f3 (0 : Int32)) = (16 : Int32) from by first | rfl | decide | simp [own_f3]] at hv7
    subst hv7
    obtain ⟨v9, _, ⟨T9, L9, k9, n9⟩, -, X9, ⟨Lc9, hQ9, l9, y9, z9⟩, st9⟩ := Jvm.LawKit.callS X7 hx (y := (⟨"com/example/castd/castd/mqtt/PacketType", "fromFirstByte", "(I)Lcom/example/castd/castd/mqtt/PacketType;"⟩ : MethodName)) hown (mvT hZ (hw _ (List.mem_of_getElem? (i := 20) rfl))) (mvT hZ (hw _ (List.mem_of_getElem? (i := 21) rfl))) (mvT hZ (hw _ (List.mem_of_getElem? (i := 6) rfl))) (mvT hZ (hw _ (List.mem_of_getElem? (i := 22) rfl))) (by decide) (backOf (W := 0) (own_v16_rm4 l Z a0 hw [] w_CONNECT w_DISCONNECT k_w__VALUES w_CONNACK w_PUBLISH w_PUBACK w_PUBREC w_PUBREL w_PUBCOMP w_SUBSCRIBE w_SUBACK w_UNSUBSCRIBE w_UNSUBACK w_PINGREQ w_PINGRESP w__VALUES h0 n0 Z0 S_CONNECT F_code_w_CONNECT S_DISCONNECT F_code_w_DISCONNECT V_w__VALUES S__VALUES E_w__VALUES F_requiredFlags_w_CONNECT) hZ (hw _ (List.mem_of_getElem? (i := 22) rfl)) (hw _ (List.mem_of_getElem? (i := 6) rfl)) (by decide) (by decide)) (g := (mkF m 66 #[.val (.int p1), .val (.int p2), .val (.int (0 : Int32)), .val (.ref w_CONNECT), .val (.int p2), .val (.int (16 : Int32)), .val (.int (16 : Int32))] [(.int (16 : Int32))])) rfl (by rw [hml]; rfl) (argsL := [(.int (16 : Int32))]) (rest := []) (lenOf own_pd119 rfl) rfl (by show 2 * 0 + _ ≤ _; exact Nat.le_of_eq rfl) (hb hby at_66) (fun _ _ => ⟨rfl, e7, (by decide : 0 + 1 ≤ _), (by decide : 0 + 14 ≤ _)⟩)
    dsimp only [Pt.U, Pt.locs, Pt.cells, Pt.slots] at X9 l9 y9 z9 st9 hQ9
    subst l9 y9 z9
    obtain ⟨hv9, N9q, K9⟩ := hQ9
    have f10 := own_staKeep S_CONNECT K9
    have f11 := own_staKeep S_CONNACK K9
    have f12 := own_staKeep S_PUBLISH K9
    have f13 := own_staKeep S_PUBACK K9
    have f14 := own_staKeep S_PUBREC K9
    have f15 := own_staKeep S_PUBREL K9
    have f16 := own_staKeep S_PUBCOMP K9
    have f17 := own_staKeep S_SUBSCRIBE K9
    have f18 := own_staKeep S_SUBACK K9
    have f19 := own_staKeep S_UNSUBSCRIBE K9
    have f20 := own_staKeep S_UNSUBACK K9
    have f21 := own_staKeep S_PINGREQ K9
    have f22 := own_staKeep S_PINGRESP K9
    have f23 := own_staKeep S_DISCONNECT K9
    have f24 := F_requiredFlags_w_CONNECT.keep K9 nin0
    have f25 := F_code_w_CONNECT.keep K9 nin0
    have f26 := E_w_CONNECT.keep K9
    have f27 := F_code_w_DISCONNECT.keep K9 nin0
    have f28 := V_w__VALUES.keep K9 nin0
    have f29 := own_staKeep S__VALUES K9
    have f30 := E_w__VALUES.keep K9
    have f31 := F_requiredFlags_w_CONNACK.keep K9 nin0
    have f32 := F_code_w_CONNACK.keep K9 nin0
    have f33 := E_w_CONNACK.keep K9
    have f34 := F_requiredFlags_w_PUBLISH.keep K9 nin0
    have f35 := F_code_w_PUBLISH.keep K9 nin0
    have f36 := E_w_PUBLISH.keep K9
    have f37 := F_requiredFlags_w_PUBACK.keep K9 nin0
    have f38 := F_code_w_PUBACK.keep K9 nin0
    have f39 := E_w_PUBACK.keep K9
    have f40 := F_requiredFlags_w_PUBREC.keep K9 nin0
    have f41 := F_code_w_PUBREC.keep K9 nin0
    have f42 := E_w_PUBREC.keep K9
    have f43 := F_requiredFlags_w_PUBREL.keep K9 nin0
    have f44 := F_code_w_PUBREL.keep K9 nin0
    have f45 := E_w_PUBREL.keep K9
    have f46 := F_requiredFlags_w_PUBCOMP.keep K9 nin0
    have f47 := F_code_w_PUBCOMP.keep K9 nin0
    have f48 := E_w_PUBCOMP.keep K9
    have f49 := F_requiredFlags_w_SUBSCRIBE.keep K9 nin0
    have f50 := F_code_w_SUBSCRIBE.keep K9 nin0
    have f51 := E_w_SUBSCRIBE.keep K9
    have f52 := F_requiredFlags_w_SUBACK.keep K9 nin0
    have f53 := F_code_w_SUBACK.keep K9 nin0
    have f54 := E_w_SUBACK.keep K9
    have f55 := F_requiredFlags_w_UNSUBSCRIBE.keep K9 nin0
    have f56 := F_code_w_UNSUBSCRIBE.keep K9 nin0
    have f57 := E_w_UNSUBSCRIBE.keep K9
    have f58 := F_requiredFlags_w_UNSUBACK.keep K9 nin0
    have f59 := F_code_w_UNSUBACK.keep K9 nin0
    have f60 := E_w_UNSUBACK.keep K9
    have f61 := F_requiredFlags_w_PINGREQ.keep K9 nin0
    have f62 := F_code_w_PINGREQ.keep K9 nin0
    have f63 := E_w_PINGREQ.keep K9
    have f64 := F_requiredFlags_w_PINGRESP.keep K9 nin0
    have f65 := F_code_w_PINGRESP.keep K9 nin0
    have f66 := E_w_PINGRESP.keep K9
    have f67 := F_requiredFlags_w_DISCONNECT.keep K9 nin0
    have f68 := E_w_DISCONNECT.keep K9
    have Z69 := Nat.le_trans Z0 K9.1
    have N70 := Fr.app N8 N9q
    rw [show (own_v16_f4 w_CONNECT) = w_CONNECT from by first | rfl | decide | simp [own_v16_f4]] at hv9
    subst hv9
    obtain ⟨fs, hr, hrun, hended, hW, hsame⟩ := X9.leave (v := some (.int (1 : Int32))) (fun h => by rw [Bd.returns] at h; cases h)
    refine ⟨_, _, k2 _ ?_, hrun, hended, _, _, rfl, ?_, ⟨_, rfl⟩, hW, hsame.mono (by decide) (by decide)⟩
    · show Steps p.tables e below (s₁.setTop (mkF m 7 #[.val (.int p1), .val (.int p2), .unset, .unset, .unset, .unset, .unset] [(.int (0 : Int32))])) _
      refine XS.istoreN X0.here hx rfl (hb hby at_7) rfl (l' := #[.val (.int p1), .val (.int p2), .val (.int (0 : Int32)), .unset, .unset, .unset, .unset]) rfl ?_
      show Steps p.tables e below (s₁.setTop (mkF m 8 #[.val (.int p1), .val (.int p2), .val (.int (0 : Int32)), .unset, .unset, .unset, .unset] [])) _
      refine XS.iloadN X0.here hx rfl (hb hby at_8) rfl ?_
      show Steps p.tables e below (s₁.setTop (mkF m 9 #[.val (.int p1), .val (.int p2), .val (.int (0 : Int32)), .unset, .unset, .unset, .unset] [(.int (0 : Int32))])) _
      refine st3 _ ?_
      show Steps p.tables e below (T3.setTop (mkF m 12 #[.val (.int p1), .val (.int p2), .val (.int (0 : Int32)), .unset, .unset, .unset, .unset] [(.ref w_CONNECT)])) _
      refine XS.astoreN X3.here hx rfl (hb hby at_12) rfl rfl (l' := #[.val (.int p1), .val (.int p2), .val (.int (0 : Int32)), .val (.ref w_CONNECT), .unset, .unset, .unset]) rfl ?_
      show Steps p.tables e below (T3.setTop (mkF m 13 #[.val (.int p1), .val (.int p2), .val (.int (0 : Int32)), .val (.ref w_CONNECT), .unset, .unset, .unset] [])) _
      refine XS.iloadN X3.here hx rfl (hb hby at_13) rfl ?_
      show Steps p.tables e below (T3.setTop (mkF m 14 #[.val (.int p1), .val (.int p2), .val (.int (0 : Int32)), .val (.ref w_CONNECT), .unset, .unset, .unset] [(.int (0 : Int32))])) _
      refine XS.iconst X3.here hx rfl (hb hby at_14) ?_
      show Steps p.tables e below (T3.setTop (mkF m 15 #[.val (.int p1), .val (.int p2), .val (.int (0 : Int32)), .val (.ref w_CONNECT), .unset, .unset, .unset] [(.int (2 : Int32)), (.int (0 : Int32))])) _
      refine XS.icmpYes X3.here hx rfl (pc0 := 15) (pc' := 25) rfl (hb hby at_15) rfl (feq (by decide : ¬ ((0 : Int32) = (2 : Int32)))).2 (by decide) (by decide) ?_
      show Steps p.tables e below (T3.setTop (mkF m 25 #[.val (.int p1), .val (.int p2), .val (.int (0 : Int32)), .val (.ref w_CONNECT), .unset, .unset, .unset] [])) _
      refine XS.iloadN X3.here hx rfl (hb hby at_25) rfl ?_
      show Steps p.tables e below (T3.setTop (mkF m 26 #[.val (.int p1), .val (.int p2), .val (.int (0 : Int32)), .val (.ref w_CONNECT), .unset, .unset, .unset] [(.int p2)])) _
      refine XS.istore X3.here hx rfl (hb hby at_26) rfl (l' := #[.val (.int p1), .val (.int p2), .val (.int (0 : Int32)), .val (.ref w_CONNECT), .val (.int p2), .unset, .unset]) rfl ?_
      show Steps p.tables e below (T3.setTop (mkF m 28 #[.val (.int p1), .val (.int p2), .val (.int (0 : Int32)), .val (.ref w_CONNECT), .val (.int p2), .unset, .unset] [])) _
      refine XS.aloadN X3.here hx rfl (hb hby at_28) rfl rfl ?_
      show Steps p.tables e below (T3.setTop (mkF m 29 #[.val (.int p1), .val (.int p2), .val (.int (0 : Int32)), .val (.ref w_CONNECT), .val (.int p2), .unset, .unset] [(.ref w_CONNECT)])) _
      refine XS.iload X3.here hx rfl (hb hby at_29) rfl ?_
      show Steps p.tables e below (T3.setTop (mkF m 31 #[.val (.int p1), .val (.int p2), .val (.int (0 : Int32)), .val (.ref w_CONNECT), .val (.int p2), .unset, .unset] [(.int p2), (.ref w_CONNECT)])) _
      refine st5.trans ?_
      show Steps p.tables e below (T5.setTop (mkF m 34 #[.val (.int p1), .val (.int p2), .val (.int (0 : Int32)), .val (.ref w_CONNECT), .val (.int p2), .unset, .unset] [(.int (16 : Int32))])) _
      refine XS.istore X5.here hx rfl (hb hby at_34) rfl (l' := #[.val (.int p1), .val (.int p2), .val (.int (0 : Int32)), .val (.ref w_CONNECT), .val (.int p2), .val (.int (16 : Int32)), .unset]) rfl ?_
      show Steps p.tables e below (T5.setTop (mkF m 36 #[.val (.int p1), .val (.int p2), .val (.int (0 : Int32)), .val (.ref w_CONNECT), .val (.int p2), .val (.int (16 : Int32)), .unset] [])) _
      refine XS.iloadN X5.here hx rfl (hb hby at_36) rfl ?_
      show Steps p.tables e below (T5.setTop (mkF m 37 #[.val (.int p1), .val (.int p2), .val (.int (0 : Int32)), .val (.ref w_CONNECT), .val (.int p2), .val (.int (16 : Int32)), .unset] [(.int (0 : Int32))])) _
      refine XS.iconst X5.here hx rfl (hb hby at_37) ?_
      show Steps p.tables e below (T5.setTop (mkF m 38 #[.val (.int p1), .val (.int p2), .val (.int (0 : Int32)), .val (.ref w_CONNECT), .val (.int p2), .val (.int (16 : Int32)), .unset] [(.int (2 : Int32)), (.int (0 : Int32))])) _
      refine XS.icmpYes X5.here hx rfl (pc0 := 38) (pc' := 51) rfl (hb hby at_38) rfl (feq (by decide : ¬ ((0 : Int32) = (2 : Int32)))).2 (by decide) (by decide) ?_
      show Steps p.tables e below (T5.setTop (mkF m 51 #[.val (.int p1), .val (.int p2), .val (.int (0 : Int32)), .val (.ref w_CONNECT), .val (.int p2), .val (.int (16 : Int32)), .unset] [])) _
      refine XS.iloadN X5.here hx rfl (hb hby at_51) rfl ?_
      show Steps p.tables e below (T5.setTop (mkF m 52 #[.val (.int p1), .val (.int p2), .val (.int (0 : Int32)), .val (.ref w_CONNECT), .val (.int p2), .val (.int (16 : Int32)), .unset] [(.int (0 : Int32))])) _
      refine st7 _ ?_
      show Steps p.tables e below (T7.setTop (mkF m 55 #[.val (.int p1), .val (.int p2), .val (.int (0 : Int32)), .val (.ref w_CONNECT), .val (.int p2), .val (.int (16 : Int32)), .unset] [(.int (16 : Int32))])) _
      refine XS.istore X7.here hx rfl (hb hby at_55) rfl (l' := #[.val (.int p1), .val (.int p2), .val (.int (0 : Int32)), .val (.ref w_CONNECT), .val (.int p2), .val (.int (16 : Int32)), .val (.int (16 : Int32))]) rfl ?_
      show Steps p.tables e below (T7.setTop (mkF m 57 #[.val (.int p1), .val (.int p2), .val (.int (0 : Int32)), .val (.ref w_CONNECT), .val (.int p2), .val (.int (16 : Int32)), .val (.int (16 : Int32))] [])) _
      refine XS.iload X7.here hx rfl (hb hby at_57) rfl ?_
      show Steps p.tables e below (T7.setTop (mkF m 59 #[.val (.int p1), .val (.int p2), .val (.int (0 : Int32)), .val (.ref w_CONNECT), .val (.int p2), .val (.int (16 : Int32)), .val (.int (16 : Int32))] [(.int (16 : Int32))])) _
      refine XS.iload X7.here hx rfl (hb hby at_59) rfl ?_
      show Steps p.tables e below (T7.setTop (mkF m 61 #[.val (.int p1), .val (.int p2), .val (.int (0 : Int32)), .val (.ref w_CONNECT), .val (.int p2), .val (.int (16 : Int32)), .val (.int (16 : Int32))] [(.int (16 : Int32)), (.int (16 : Int32))])) _
      refine XS.icmpNo X7.here hx rfl (hb hby at_61) rfl (teq (by decide : (16 : Int32) = (16 : Int32))).2 ?_
      show Steps p.tables e below (T7.setTop (mkF m 64 #[.val (.int p1), .val (.int p2), .val (.int (0 : Int32)), .val (.ref w_CONNECT), .val (.int p2), .val (.int (16 : Int32)), .val (.int (16 : Int32))] [])) _
      refine XS.iload X7.here hx rfl (hb hby at_64) rfl ?_
      show Steps p.tables e below (T7.setTop (mkF m 66 #[.val (.int p1), .val (.int p2), .val (.int (0 : Int32)), .val (.ref w_CONNECT), .val (.int p2), .val (.int (16 : Int32)), .val (.int (16 : Int32))] [(.int (16 : Int32))])) _
      refine st9 _ ?_
      show Steps p.tables e below (T9.setTop (mkF m 69 #[.val (.int p1), .val (.int p2), .val (.int (0 : Int32)), .val (.ref w_CONNECT), .val (.int p2), .val (.int (16 : Int32)), .val (.int (16 : Int32))] [(.ref w_CONNECT)])) _
      refine XS.aloadN X9.here hx rfl (hb hby at_69) rfl rfl ?_
      show Steps p.tables e below (T9.setTop (mkF m 70 #[.val (.int p1), .val (.int p2), .val (.int (0 : Int32)), .val (.ref w_CONNECT), .val (.int p2), .val (.int (16 : Int32)), .val (.int (16 : Int32))] [(.ref w_CONNECT), (.ref w_CONNECT)])) _
      refine Jvm.RoadKit.acmp (g := (mkF m 70 #[.val (.int p1), .val (.int p2), .val (.int (0 : Int32)), .val (.ref w_CONNECT), .val (.int p2), .val (.int (16 : Int32)), .val (.int (16 : Int32))] [(.ref w_CONNECT), (.ref w_CONNECT)])) X9 hx rfl rfl rfl (pc0 := 70) (pc' := 73) (same := true) rfl (hb hby at_70) rfl (decide_eq_true rfl) (by decide) (by decide) ?_
      show Steps p.tables e below (T9.setTop (mkF m 73 #[.val (.int p1), .val (.int p2), .val (.int (0 : Int32)), .val (.ref w_CONNECT), .val (.int p2), .val (.int (16 : Int32)), .val (.int (16 : Int32))] [])) _
      refine XS.iconst X9.here hx rfl (hb hby at_73) ?_
      show Steps p.tables e below (T9.setTop (mkF m 74 #[.val (.int p1), .val (.int p2), .val (.int (0 : Int32)), .val (.ref w_CONNECT), .val (.int p2), .val (.int (16 : Int32)), .val (.int (16 : Int32))] [(.int (1 : Int32))])) _
      refine XS.goto X9.here hx rfl (pc0 := 74) (pc' := 78) rfl (hb hby at_74) (by decide) (by decide) ?_
      show Steps p.tables e below (T9.setTop (mkF m 78 #[.val (.int p1), .val (.int p2), .val (.int (0 : Int32)), .val (.ref w_CONNECT), .val (.int p2), .val (.int (16 : Int32)), .val (.int (16 : Int32))] [(.int (1 : Int32))])) _
      exact retN X9 hx (t := .boolean) Bd.returns (by simp) (hb hby at_78) hr
    · show own_Q0 Z p1 p2 w_CONNECT w_CONNACK w_PUBLISH w_PUBACK w_PUBREC w_PUBREL w_PUBCOMP w_SUBSCRIBE w_SUBACK w_UNSUBSCRIBE w_UNSUBACK w_PINGREQ w_PINGRESP w_DISCONNECT k_w__VALUES w__VALUES h0 n0 _ T9.heap _
      exact ⟨(by rw [own_f0, if_pos hc1]), N70⟩
  ·
    by_cases hc2 : ((p1 &&& (2147483647 : Int32)) - ((p1 &&& (2147483647 : Int32)) / (14 : Int32)) * (14 : Int32)) = (1 : Int32)
    ·
      have k71 : ∀ t, Steps p.tables e below (s₁.setTop (mkF m 7 #[.val (.int p1), .val (.int p2), .unset, .unset, .unset, .unset, .unset] [(.int (1 : Int32))])) t → Steps p.tables e below (s₁.setTop (entryFrame m #[(.int p1), (.int p2)] maxLocals)) t := by
        intro t kt
        refine k1 t ?_
        rw [hc2]
        exact kt
      obtain ⟨v72, _, ⟨T72, L72, k72, n72⟩, -, X72, ⟨Lc72, hQ72, l72, y72, z72⟩, st72⟩ := Jvm.LawKit.callS X0 hx (y := (⟨"com/example/castd/castd/mqtt/PacketTypeFirstBytePinLaw", "type", "(I)Lcom/example/castd/castd/mqtt/PacketType;"⟩ : MethodName)) hown (mvT hZ (hw _ (List.mem_of_getElem? (i := 1) rfl))) (mvT hZ (hw _ (List.mem_of_getElem? (i := 2) rfl))) (mvT hZ (hw _ (List.mem_of_getElem? (i := 3) rfl))) (mvT hZ (hw _ (List.mem_of_getElem? (i := 4) rfl))) (by decide) (backOf (W := 0) (own_rm1 l Z a0 hw [] (1 : Int32) w_CONNECT w_CONNACK w_PUBLISH w_PUBACK w_PUBREC w_PUBREL w_PUBCOMP w_SUBSCRIBE w_SUBACK w_UNSUBSCRIBE w_UNSUBACK w_PINGREQ w_PINGRESP w_DISCONNECT h0 n0 Z0 S_CONNECT S_CONNACK S_PUBLISH S_PUBACK S_PUBREC S_PUBREL S_PUBCOMP S_SUBSCRIBE S_SUBACK S_UNSUBSCRIBE S_UNSUBACK S_PINGREQ S_PINGRESP S_DISCONNECT) hZ (hw _ (List.mem_of_getElem? (i := 4) rfl)) (hw _ (List.mem_of_getElem? (i := 3) rfl)) (by decide) (by decide)) (g := (mkF m 9 #[.val (.int p1), .val (.int p2), .val (.int (1 : Int32)), .unset, .unset, .unset, .unset] [(.int (1 : Int32))])) rfl (by rw [hml]; rfl) (argsL := [(.int (1 : Int32))]) (rest := []) (lenOf own_pd119 rfl) rfl (by show 2 * 0 + _ ≤ _; exact Nat.le_of_eq rfl) (hb hby at_9) (fun _ _ => ⟨rfl, e0, (by decide : 0 + 0 ≤ _), (by decide : 0 + 0 ≤ _)⟩)
      dsimp only [Pt.U, Pt.locs, Pt.cells, Pt.slots] at X72 l72 y72 z72 st72 hQ72
      subst l72 y72 z72
      obtain ⟨hv72, N72q, e72⟩ := hQ72
      have N73 := Fr.app N0 N72q
      rw [show (own_f1 (1 : Int32) w_CONNECT w_CONNACK w_PUBLISH w_PUBACK w_PUBREC w_PUBREL w_PUBCOMP w_SUBSCRIBE w_SUBACK w_UNSUBSCRIBE w_UNSUBACK w_PINGREQ w_PINGRESP w_DISCONNECT) = w_CONNACK from by first | rfl | decide | simp [own_f1]] at hv72
      subst hv72
      obtain ⟨cq74, kq74, q74a, q74b, q74c⟩ := isOf hZ e72 E_w_CONNACK
      obtain ⟨v74, _, ⟨T74, L74, k74, n74⟩, -, X74, ⟨Lc74, hQ74, l74, y74, z74⟩, st74⟩ := X72.virtualBack hx (y := (⟨"com/example/castd/castd/mqtt/PacketType", "firstByte", "(I)I"⟩ : MethodName)) (z := (⟨"com/example/castd/castd/mqtt/PacketType", "firstByte", "(I)I"⟩ : MethodName)) hown (mvT hZ (hw _ (List.mem_of_getElem? (i := 8) rfl))) (mvT hZ (hw _ (List.mem_of_getElem? (i := 9) rfl))) (notFace_of_selects (args := #[]) (mvT hZ (hw _ (List.mem_of_getElem? (i := 11) rfl)))) (mvT hZ (hw _ (List.mem_of_getElem? (i := 11) rfl))) (mvT hZ (hw _ (List.mem_of_getElem? (i := 10) rfl))) (by decide) (backOf (W := 0) (own_rm2 l Z a0 hw [] w_CONNACK p2 (0 : Int32) (2 : Int32) h0 n0 Z0 F_requiredFlags_w_CONNACK F_code_w_CONNACK) hZ (hw _ (List.mem_of_getElem? (i := 12) rfl)) (hw _ (List.mem_of_getElem? (i := 6) rfl)) (by decide) (by decide)) q74a q74c (g := (mkF m 31 #[.val (.int p1), .val (.int p2), .val (.int (1 : Int32)), .val (.ref w_CONNACK), .val (.int p2), .unset, .unset] [(.int p2), (.ref w_CONNACK)])) rfl (by rw [hml]; rfl) (Steps.refl _) (argsL := [(.int p2)]) (rest := []) (lenOf own_pd120 rfl) rfl (by show 2 * 0 + _ ≤ _; exact Nat.le_of_eq rfl) (hb hby at_31) (fun _ _ => ⟨rfl, e72, (by decide : 0 + 0 ≤ _), (by decide : 0 + 0 ≤ _)⟩)
      dsimp only [Pt.U, Pt.locs, Pt.cells, Pt.slots] at X74 l74 y74 z74 st74 hQ74
      subst l74 y74 z74
      obtain ⟨hv74, N74q, e74⟩ := hQ74
      have N75 := Fr.app N73 N74q
      rw [show (own_f2 p2 (0 : Int32) (2 : Int32)) = (32 : Int32) from by first | rfl | decide | simp [own_f2]] at hv74
      subst hv74
      obtain ⟨v76, _, ⟨T76, L76, k76, n76⟩, -, X76, ⟨Lc76, hQ76, l76, y76, z76⟩, st76⟩ := Jvm.LawKit.callS X74 hx (y := (⟨"com/example/castd/castd/mqtt/PacketTypeFirstBytePinLaw", "fixed", "(I)I"⟩ : MethodName)) hown (mvT hZ (hw _ (List.mem_of_getElem? (i := 17) rfl))) (mvT hZ (hw _ (List.mem_of_getElem? (i := 18) rfl))) (mvT hZ (hw _ (List.mem_of_getElem? (i := 3) rfl))) (mvT hZ (hw _ (List.mem_of_getElem? (i := 19) rfl))) (by decide) (backOf (W := 0) (own_rm3 l Z a0 hw [] (1 : Int32) h0 n0 Z0) hZ (hw _ (List.mem_of_getElem? (i := 19) rfl)) (hw _ (List.mem_of_getElem? (i := 3) rfl)) (by decide) (by decide)) (g := (mkF m 52 #[.val (.int p1), .val (.int p2), .val (.int (1 : Int32)), .val (.ref w_CONNACK), .val (.int p2), .val (.int (32 : Int32)), .unset] [(.int (1 : Int32))])) rfl (by rw [hml]; rfl) (argsL := [(.int (1 : Int32))]) (rest := []) (lenOf own_pd120 rfl) rfl (by show 2 * 0 + _ ≤ _; exact Nat.le_of_eq rfl) (hb hby at_52) (fun _ _ => ⟨rfl, e74, (by decide : 0 + 0 ≤ _), (by decide : 0 + 0 ≤ _)⟩)
      dsimp only [Pt.U, Pt.locs, Pt.cells, Pt.slots] at X76 l76 y76 z76 st76 hQ76
      subst l76 y76 z76
      obtain ⟨hv76, N76q, e76⟩ := hQ76
      have N77 := Fr.app N75 N76q
      rw [show (own_f3 (1 : Int32)) = (32 : Int32) from by first | rfl | decide | simp [own_f3]] at hv76
      subst hv76
      obtain ⟨v78, _, ⟨T78, L78, k78, n78⟩, -, X78, ⟨Lc78, hQ78, l78, y78, z78⟩, st78⟩ := Jvm.LawKit.callS X76 hx (y := (⟨"com/example/castd/castd/mqtt/PacketType", "fromFirstByte", "(I)Lcom/example/castd/castd/mqtt/PacketType;"⟩ : MethodName)) hown (mvT hZ (hw _ (List.mem_of_getElem? (i := 20) rfl))) (mvT hZ (hw _ (List.mem_of_getElem? (i := 21) rfl))) (mvT hZ (hw _ (List.mem_of_getElem? (i := 6) rfl))) (mvT hZ (hw _ (List.mem_of_getElem? (i := 22) rfl))) (by decide) (backOf (W := 0) (own_v32_rm4 l Z a0 hw [] w_CONNECT w_DISCONNECT k_w__VALUES w_CONNACK w_PUBLISH w_PUBACK w_PUBREC w_PUBREL w_PUBCOMP w_SUBSCRIBE w_SUBACK w_UNSUBSCRIBE w_UNSUBACK w_PINGREQ w_PINGRESP w__VALUES h0 n0 Z0 S_CONNECT F_code_w_CONNECT S_DISCONNECT F_code_w_DISCONNECT V_w__VALUES S__VALUES E_w__VALUES F_requiredFlags_w_CONNACK) hZ (hw _ (List.mem_of_getElem? (i := 22) rfl)) (hw _ (List.mem_of_getElem? (i := 6) rfl)) (by decide) (by decide)) (g := (mkF m 66 #[.val (.int p1), .val (.int p2), .val (.int (1 : Int32)), .val (.ref w_CONNACK), .val (.int p2), .val (.int (32 : Int32)), .val (.int (32 : Int32))] [(.int (32 : Int32))])) rfl (by rw [hml]; rfl) (argsL := [(.int (32 : Int32))]) (rest := []) (lenOf own_pd119 rfl) rfl (by show 2 * 0 + _ ≤ _; exact Nat.le_of_eq rfl) (hb hby at_66) (fun _ _ => ⟨rfl, e76, (by decide : 0 + 1 ≤ _), (by decide : 0 + 14 ≤ _)⟩)
      dsimp only [Pt.U, Pt.locs, Pt.cells, Pt.slots] at X78 l78 y78 z78 st78 hQ78
      subst l78 y78 z78
      obtain ⟨hv78, N78q, K78⟩ := hQ78
      have f79 := own_staKeep S_CONNECT K78
      have f80 := own_staKeep S_CONNACK K78
      have f81 := own_staKeep S_PUBLISH K78
      have f82 := own_staKeep S_PUBACK K78
      have f83 := own_staKeep S_PUBREC K78
      have f84 := own_staKeep S_PUBREL K78
      have f85 := own_staKeep S_PUBCOMP K78
      have f86 := own_staKeep S_SUBSCRIBE K78
      have f87 := own_staKeep S_SUBACK K78
      have f88 := own_staKeep S_UNSUBSCRIBE K78
      have f89 := own_staKeep S_UNSUBACK K78
      have f90 := own_staKeep S_PINGREQ K78
      have f91 := own_staKeep S_PINGRESP K78
      have f92 := own_staKeep S_DISCONNECT K78
      have f93 := F_requiredFlags_w_CONNECT.keep K78 nin0
      have f94 := F_code_w_CONNECT.keep K78 nin0
      have f95 := E_w_CONNECT.keep K78
      have f96 := F_code_w_DISCONNECT.keep K78 nin0
      have f97 := V_w__VALUES.keep K78 nin0
      have f98 := own_staKeep S__VALUES K78
      have f99 := E_w__VALUES.keep K78
      have f100 := F_requiredFlags_w_CONNACK.keep K78 nin0
      have f101 := F_code_w_CONNACK.keep K78 nin0
      have f102 := E_w_CONNACK.keep K78
      have f103 := F_requiredFlags_w_PUBLISH.keep K78 nin0
      have f104 := F_code_w_PUBLISH.keep K78 nin0
      have f105 := E_w_PUBLISH.keep K78
      have f106 := F_requiredFlags_w_PUBACK.keep K78 nin0
      have f107 := F_code_w_PUBACK.keep K78 nin0
      have f108 := E_w_PUBACK.keep K78
      have f109 := F_requiredFlags_w_PUBREC.keep K78 nin0
      have f110 := F_code_w_PUBREC.keep K78 nin0
      have f111 := E_w_PUBREC.keep K78
      have f112 := F_requiredFlags_w_PUBREL.keep K78 nin0
      have f113 := F_code_w_PUBREL.keep K78 nin0
      have f114 := E_w_PUBREL.keep K78
      have f115 := F_requiredFlags_w_PUBCOMP.keep K78 nin0
      have f116 := F_code_w_PUBCOMP.keep K78 nin0
      have f117 := E_w_PUBCOMP.keep K78
      have f118 := F_requiredFlags_w_SUBSCRIBE.keep K78 nin0
      have f119 := F_code_w_SUBSCRIBE.keep K78 nin0
      have f120 := E_w_SUBSCRIBE.keep K78
      have f121 := F_requiredFlags_w_SUBACK.keep K78 nin0
      have f122 := F_code_w_SUBACK.keep K78 nin0
      have f123 := E_w_SUBACK.keep K78
      have f124 := F_requiredFlags_w_UNSUBSCRIBE.keep K78 nin0
      have f125 := F_code_w_UNSUBSCRIBE.keep K78 nin0
      have f126 := E_w_UNSUBSCRIBE.keep K78
      have f127 := F_requiredFlags_w_UNSUBACK.keep K78 nin0
      have f128 := F_code_w_UNSUBACK.keep K78 nin0
      have f129 := E_w_UNSUBACK.keep K78
      have f130 := F_requiredFlags_w_PINGREQ.keep K78 nin0
      have f131 := F_code_w_PINGREQ.keep K78 nin0
      have f132 := E_w_PINGREQ.keep K78
      have f133 := F_requiredFlags_w_PINGRESP.keep K78 nin0
      have f134 := F_code_w_PINGRESP.keep K78 nin0
      have f135 := E_w_PINGRESP.keep K78
      have f136 := F_requiredFlags_w_DISCONNECT.keep K78 nin0
      have f137 := E_w_DISCONNECT.keep K78
      have Z138 := Nat.le_trans Z0 K78.1
      have N139 := Fr.app N77 N78q
      rw [show (own_v32_f4 w_CONNACK) = w_CONNACK from by first | rfl | decide | simp [own_v32_f4]] at hv78
      subst hv78
      obtain ⟨fs, hr, hrun, hended, hW, hsame⟩ := X78.leave (v := some (.int (1 : Int32))) (fun h => by rw [Bd.returns] at h; cases h)
      refine ⟨_, _, k71 _ ?_, hrun, hended, _, _, rfl, ?_, ⟨_, rfl⟩, hW, hsame.mono (by decide) (by decide)⟩
      · show Steps p.tables e below (s₁.setTop (mkF m 7 #[.val (.int p1), .val (.int p2), .unset, .unset, .unset, .unset, .unset] [(.int (1 : Int32))])) _
        refine XS.istoreN X0.here hx rfl (hb hby at_7) rfl (l' := #[.val (.int p1), .val (.int p2), .val (.int (1 : Int32)), .unset, .unset, .unset, .unset]) rfl ?_
        show Steps p.tables e below (s₁.setTop (mkF m 8 #[.val (.int p1), .val (.int p2), .val (.int (1 : Int32)), .unset, .unset, .unset, .unset] [])) _
        refine XS.iloadN X0.here hx rfl (hb hby at_8) rfl ?_
        show Steps p.tables e below (s₁.setTop (mkF m 9 #[.val (.int p1), .val (.int p2), .val (.int (1 : Int32)), .unset, .unset, .unset, .unset] [(.int (1 : Int32))])) _
        refine st72 _ ?_
        show Steps p.tables e below (T72.setTop (mkF m 12 #[.val (.int p1), .val (.int p2), .val (.int (1 : Int32)), .unset, .unset, .unset, .unset] [(.ref w_CONNACK)])) _
        refine XS.astoreN X72.here hx rfl (hb hby at_12) rfl rfl (l' := #[.val (.int p1), .val (.int p2), .val (.int (1 : Int32)), .val (.ref w_CONNACK), .unset, .unset, .unset]) rfl ?_
        show Steps p.tables e below (T72.setTop (mkF m 13 #[.val (.int p1), .val (.int p2), .val (.int (1 : Int32)), .val (.ref w_CONNACK), .unset, .unset, .unset] [])) _
        refine XS.iloadN X72.here hx rfl (hb hby at_13) rfl ?_
        show Steps p.tables e below (T72.setTop (mkF m 14 #[.val (.int p1), .val (.int p2), .val (.int (1 : Int32)), .val (.ref w_CONNACK), .unset, .unset, .unset] [(.int (1 : Int32))])) _
        refine XS.iconst X72.here hx rfl (hb hby at_14) ?_
        show Steps p.tables e below (T72.setTop (mkF m 15 #[.val (.int p1), .val (.int p2), .val (.int (1 : Int32)), .val (.ref w_CONNACK), .unset, .unset, .unset] [(.int (2 : Int32)), (.int (1 : Int32))])) _
        refine XS.icmpYes X72.here hx rfl (pc0 := 15) (pc' := 25) rfl (hb hby at_15) rfl (feq (by decide : ¬ ((1 : Int32) = (2 : Int32)))).2 (by decide) (by decide) ?_
        show Steps p.tables e below (T72.setTop (mkF m 25 #[.val (.int p1), .val (.int p2), .val (.int (1 : Int32)), .val (.ref w_CONNACK), .unset, .unset, .unset] [])) _
        refine XS.iloadN X72.here hx rfl (hb hby at_25) rfl ?_
        show Steps p.tables e below (T72.setTop (mkF m 26 #[.val (.int p1), .val (.int p2), .val (.int (1 : Int32)), .val (.ref w_CONNACK), .unset, .unset, .unset] [(.int p2)])) _
        refine XS.istore X72.here hx rfl (hb hby at_26) rfl (l' := #[.val (.int p1), .val (.int p2), .val (.int (1 : Int32)), .val (.ref w_CONNACK), .val (.int p2), .unset, .unset]) rfl ?_
        show Steps p.tables e below (T72.setTop (mkF m 28 #[.val (.int p1), .val (.int p2), .val (.int (1 : Int32)), .val (.ref w_CONNACK), .val (.int p2), .unset, .unset] [])) _
        refine XS.aloadN X72.here hx rfl (hb hby at_28) rfl rfl ?_
        show Steps p.tables e below (T72.setTop (mkF m 29 #[.val (.int p1), .val (.int p2), .val (.int (1 : Int32)), .val (.ref w_CONNACK), .val (.int p2), .unset, .unset] [(.ref w_CONNACK)])) _
        refine XS.iload X72.here hx rfl (hb hby at_29) rfl ?_
        show Steps p.tables e below (T72.setTop (mkF m 31 #[.val (.int p1), .val (.int p2), .val (.int (1 : Int32)), .val (.ref w_CONNACK), .val (.int p2), .unset, .unset] [(.int p2), (.ref w_CONNACK)])) _
        refine st74.trans ?_
        show Steps p.tables e below (T74.setTop (mkF m 34 #[.val (.int p1), .val (.int p2), .val (.int (1 : Int32)), .val (.ref w_CONNACK), .val (.int p2), .unset, .unset] [(.int (32 : Int32))])) _
        refine XS.istore X74.here hx rfl (hb hby at_34) rfl (l' := #[.val (.int p1), .val (.int p2), .val (.int (1 : Int32)), .val (.ref w_CONNACK), .val (.int p2), .val (.int (32 : Int32)), .unset]) rfl ?_
        show Steps p.tables e below (T74.setTop (mkF m 36 #[.val (.int p1), .val (.int p2), .val (.int (1 : Int32)), .val (.ref w_CONNACK), .val (.int p2), .val (.int (32 : Int32)), .unset] [])) _
        refine XS.iloadN X74.here hx rfl (hb hby at_36) rfl ?_
        show Steps p.tables e below (T74.setTop (mkF m 37 #[.val (.int p1), .val (.int p2), .val (.int (1 : Int32)), .val (.ref w_CONNACK), .val (.int p2), .val (.int (32 : Int32)), .unset] [(.int (1 : Int32))])) _
        refine XS.iconst X74.here hx rfl (hb hby at_37) ?_
        show Steps p.tables e below (T74.setTop (mkF m 38 #[.val (.int p1), .val (.int p2), .val (.int (1 : Int32)), .val (.ref w_CONNACK), .val (.int p2), .val (.int (32 : Int32)), .unset] [(.int (2 : Int32)), (.int (1 : Int32))])) _
        refine XS.icmpYes X74.here hx rfl (pc0 := 38) (pc' := 51) rfl (hb hby at_38) rfl (feq (by decide : ¬ ((1 : Int32) = (2 : Int32)))).2 (by decide) (by decide) ?_
        show Steps p.tables e below (T74.setTop (mkF m 51 #[.val (.int p1), .val (.int p2), .val (.int (1 : Int32)), .val (.ref w_CONNACK), .val (.int p2), .val (.int (32 : Int32)), .unset] [])) _
        refine XS.iloadN X74.here hx rfl (hb hby at_51) rfl ?_
        show Steps p.tables e below (T74.setTop (mkF m 52 #[.val (.int p1), .val (.int p2), .val (.int (1 : Int32)), .val (.ref w_CONNACK), .val (.int p2), .val (.int (32 : Int32)), .unset] [(.int (1 : Int32))])) _
        refine st76 _ ?_
        show Steps p.tables e below (T76.setTop (mkF m 55 #[.val (.int p1), .val (.int p2), .val (.int (1 : Int32)), .val (.ref w_CONNACK), .val (.int p2), .val (.int (32 : Int32)), .unset] [(.int (32 : Int32))])) _
        refine XS.istore X76.here hx rfl (hb hby at_55) rfl (l' := #[.val (.int p1), .val (.int p2), .val (.int (1 : Int32)), .val (.ref w_CONNACK), .val (.int p2), .val (.int (32 : Int32)), .val (.int (32 : Int32))]) rfl ?_
        show Steps p.tables e below (T76.setTop (mkF m 57 #[.val (.int p1), .val (.int p2), .val (.int (1 : Int32)), .val (.ref w_CONNACK), .val (.int p2), .val (.int (32 : Int32)), .val (.int (32 : Int32))] [])) _
        refine XS.iload X76.here hx rfl (hb hby at_57) rfl ?_
        show Steps p.tables e below (T76.setTop (mkF m 59 #[.val (.int p1), .val (.int p2), .val (.int (1 : Int32)), .val (.ref w_CONNACK), .val (.int p2), .val (.int (32 : Int32)), .val (.int (32 : Int32))] [(.int (32 : Int32))])) _
        refine XS.iload X76.here hx rfl (hb hby at_59) rfl ?_
        show Steps p.tables e below (T76.setTop (mkF m 61 #[.val (.int p1), .val (.int p2), .val (.int (1 : Int32)), .val (.ref w_CONNACK), .val (.int p2), .val (.int (32 : Int32)), .val (.int (32 : Int32))] [(.int (32 : Int32)), (.int (32 : Int32))])) _
        refine XS.icmpNo X76.here hx rfl (hb hby at_61) rfl (teq (by decide : (32 : Int32) = (32 : Int32))).2 ?_
        show Steps p.tables e below (T76.setTop (mkF m 64 #[.val (.int p1), .val (.int p2), .val (.int (1 : Int32)), .val (.ref w_CONNACK), .val (.int p2), .val (.int (32 : Int32)), .val (.int (32 : Int32))] [])) _
        refine XS.iload X76.here hx rfl (hb hby at_64) rfl ?_
        show Steps p.tables e below (T76.setTop (mkF m 66 #[.val (.int p1), .val (.int p2), .val (.int (1 : Int32)), .val (.ref w_CONNACK), .val (.int p2), .val (.int (32 : Int32)), .val (.int (32 : Int32))] [(.int (32 : Int32))])) _
        refine st78 _ ?_
        show Steps p.tables e below (T78.setTop (mkF m 69 #[.val (.int p1), .val (.int p2), .val (.int (1 : Int32)), .val (.ref w_CONNACK), .val (.int p2), .val (.int (32 : Int32)), .val (.int (32 : Int32))] [(.ref w_CONNACK)])) _
        refine XS.aloadN X78.here hx rfl (hb hby at_69) rfl rfl ?_
        show Steps p.tables e below (T78.setTop (mkF m 70 #[.val (.int p1), .val (.int p2), .val (.int (1 : Int32)), .val (.ref w_CONNACK), .val (.int p2), .val (.int (32 : Int32)), .val (.int (32 : Int32))] [(.ref w_CONNACK), (.ref w_CONNACK)])) _
        refine Jvm.RoadKit.acmp (g := (mkF m 70 #[.val (.int p1), .val (.int p2), .val (.int (1 : Int32)), .val (.ref w_CONNACK), .val (.int p2), .val (.int (32 : Int32)), .val (.int (32 : Int32))] [(.ref w_CONNACK), (.ref w_CONNACK)])) X78 hx rfl rfl rfl (pc0 := 70) (pc' := 73) (same := true) rfl (hb hby at_70) rfl (decide_eq_true rfl) (by decide) (by decide) ?_
        show Steps p.tables e below (T78.setTop (mkF m 73 #[.val (.int p1), .val (.int p2), .val (.int (1 : Int32)), .val (.ref w_CONNACK), .val (.int p2), .val (.int (32 : Int32)), .val (.int (32 : Int32))] [])) _
        refine XS.iconst X78.here hx rfl (hb hby at_73) ?_
        show Steps p.tables e below (T78.setTop (mkF m 74 #[.val (.int p1), .val (.int p2), .val (.int (1 : Int32)), .val (.ref w_CONNACK), .val (.int p2), .val (.int (32 : Int32)), .val (.int (32 : Int32))] [(.int (1 : Int32))])) _
        refine XS.goto X78.here hx rfl (pc0 := 74) (pc' := 78) rfl (hb hby at_74) (by decide) (by decide) ?_
        show Steps p.tables e below (T78.setTop (mkF m 78 #[.val (.int p1), .val (.int p2), .val (.int (1 : Int32)), .val (.ref w_CONNACK), .val (.int p2), .val (.int (32 : Int32)), .val (.int (32 : Int32))] [(.int (1 : Int32))])) _
        exact retN X78 hx (t := .boolean) Bd.returns (by simp) (hb hby at_78) hr
      · show own_Q0 Z p1 p2 w_CONNECT w_CONNACK w_PUBLISH w_PUBACK w_PUBREC w_PUBREL w_PUBCOMP w_SUBSCRIBE w_SUBACK w_UNSUBSCRIBE w_UNSUBACK w_PINGREQ w_PINGRESP w_DISCONNECT k_w__VALUES w__VALUES h0 n0 _ T78.heap _
        exact ⟨(by rw [own_f0, if_neg hc1, if_pos hc2]), N139⟩
    ·
      by_cases hc3 : ((p1 &&& (2147483647 : Int32)) - ((p1 &&& (2147483647 : Int32)) / (14 : Int32)) * (14 : Int32)) = (2 : Int32)
      ·
        have k140 : ∀ t, Steps p.tables e below (s₁.setTop (mkF m 7 #[.val (.int p1), .val (.int p2), .unset, .unset, .unset, .unset, .unset] [(.int (2 : Int32))])) t → Steps p.tables e below (s₁.setTop (entryFrame m #[(.int p1), (.int p2)] maxLocals)) t := by
          intro t kt
          refine k1 t ?_
          rw [hc3]
          exact kt
        obtain ⟨v141, _, ⟨T141, L141, k141, n141⟩, -, X141, ⟨Lc141, hQ141, l141, y141, z141⟩, st141⟩ := Jvm.LawKit.callS X0 hx (y := (⟨"com/example/castd/castd/mqtt/PacketTypeFirstBytePinLaw", "type", "(I)Lcom/example/castd/castd/mqtt/PacketType;"⟩ : MethodName)) hown (mvT hZ (hw _ (List.mem_of_getElem? (i := 1) rfl))) (mvT hZ (hw _ (List.mem_of_getElem? (i := 2) rfl))) (mvT hZ (hw _ (List.mem_of_getElem? (i := 3) rfl))) (mvT hZ (hw _ (List.mem_of_getElem? (i := 4) rfl))) (by decide) (backOf (W := 0) (own_rm1 l Z a0 hw [] (2 : Int32) w_CONNECT w_CONNACK w_PUBLISH w_PUBACK w_PUBREC w_PUBREL w_PUBCOMP w_SUBSCRIBE w_SUBACK w_UNSUBSCRIBE w_UNSUBACK w_PINGREQ w_PINGRESP w_DISCONNECT h0 n0 Z0 S_CONNECT S_CONNACK S_PUBLISH S_PUBACK S_PUBREC S_PUBREL S_PUBCOMP S_SUBSCRIBE S_SUBACK S_UNSUBSCRIBE S_UNSUBACK S_PINGREQ S_PINGRESP S_DISCONNECT) hZ (hw _ (List.mem_of_getElem? (i := 4) rfl)) (hw _ (List.mem_of_getElem? (i := 3) rfl)) (by decide) (by decide)) (g := (mkF m 9 #[.val (.int p1), .val (.int p2), .val (.int (2 : Int32)), .unset, .unset, .unset, .unset] [(.int (2 : Int32))])) rfl (by rw [hml]; rfl) (argsL := [(.int (2 : Int32))]) (rest := []) (lenOf own_pd119 rfl) rfl (by show 2 * 0 + _ ≤ _; exact Nat.le_of_eq rfl) (hb hby at_9) (fun _ _ => ⟨rfl, e0, (by decide : 0 + 0 ≤ _), (by decide : 0 + 0 ≤ _)⟩)
        dsimp only [Pt.U, Pt.locs, Pt.cells, Pt.slots] at X141 l141 y141 z141 st141 hQ141
        subst l141 y141 z141
        obtain ⟨hv141, N141q, e141⟩ := hQ141
        have N142 := Fr.app N0 N141q
        rw [show (own_f1 (2 : Int32) w_CONNECT w_CONNACK w_PUBLISH w_PUBACK w_PUBREC w_PUBREL w_PUBCOMP w_SUBSCRIBE w_SUBACK w_UNSUBSCRIBE w_UNSUBACK w_PINGREQ w_PINGRESP w_DISCONNECT) = w_PUBLISH from by first | rfl | decide | simp [own_f1]] at hv141
        subst hv141
        obtain ⟨cq143, kq143, q143a, q143b, q143c⟩ := isOf hZ e141 E_w_PUBLISH
        obtain ⟨v143, _, ⟨T143, L143, k143, n143⟩, -, X143, ⟨Lc143, hQ143, l143, y143, z143⟩, st143⟩ := X141.virtualBack hx (y := (⟨"com/example/castd/castd/mqtt/PacketType", "firstByte", "(I)I"⟩ : MethodName)) (z := (⟨"com/example/castd/castd/mqtt/PacketType", "firstByte", "(I)I"⟩ : MethodName)) hown (mvT hZ (hw _ (List.mem_of_getElem? (i := 8) rfl))) (mvT hZ (hw _ (List.mem_of_getElem? (i := 9) rfl))) (notFace_of_selects (args := #[]) (mvT hZ (hw _ (List.mem_of_getElem? (i := 11) rfl)))) (mvT hZ (hw _ (List.mem_of_getElem? (i := 11) rfl))) (mvT hZ (hw _ (List.mem_of_getElem? (i := 10) rfl))) (by decide) (backOf (W := 0) (own_rm2 l Z a0 hw [] w_PUBLISH (p2 &&& (15 : Int32)) (-1 : Int32) (3 : Int32) h0 n0 Z0 F_requiredFlags_w_PUBLISH F_code_w_PUBLISH) hZ (hw _ (List.mem_of_getElem? (i := 12) rfl)) (hw _ (List.mem_of_getElem? (i := 6) rfl)) (by decide) (by decide)) q143a q143c (g := (mkF m 31 #[.val (.int p1), .val (.int p2), .val (.int (2 : Int32)), .val (.ref w_PUBLISH), .val (.int (p2 &&& (15 : Int32))), .unset, .unset] [(.int (p2 &&& (15 : Int32))), (.ref w_PUBLISH)])) rfl (by rw [hml]; rfl) (Steps.refl _) (argsL := [(.int (p2 &&& (15 : Int32)))]) (rest := []) (lenOf own_pd120 rfl) rfl (by show 2 * 0 + _ ≤ _; exact Nat.le_of_eq rfl) (hb hby at_31) (fun _ _ => ⟨rfl, e141, (by decide : 0 + 0 ≤ _), (by decide : 0 + 0 ≤ _)⟩)
        dsimp only [Pt.U, Pt.locs, Pt.cells, Pt.slots] at X143 l143 y143 z143 st143 hQ143
        subst l143 y143 z143
        obtain ⟨hv143, N143q, e143⟩ := hQ143
        have N144 := Fr.app N142 N143q
        rw [show (own_f2 (p2 &&& (15 : Int32)) (-1 : Int32) (3 : Int32)) = ((48 : Int32) ||| (p2 &&& (15 : Int32))) from by first | rfl | decide | simp [own_f2]] at hv143
        subst hv143
        obtain ⟨v145, _, ⟨T145, L145, k145, n145⟩, -, X145, ⟨Lc145, hQ145, l145, y145, z145⟩, st145⟩ := Jvm.LawKit.callS X143 hx (y := (⟨"com/example/castd/castd/mqtt/PacketType", "fromFirstByte", "(I)Lcom/example/castd/castd/mqtt/PacketType;"⟩ : MethodName)) hown (mvT hZ (hw _ (List.mem_of_getElem? (i := 20) rfl))) (mvT hZ (hw _ (List.mem_of_getElem? (i := 21) rfl))) (mvT hZ (hw _ (List.mem_of_getElem? (i := 6) rfl))) (mvT hZ (hw _ (List.mem_of_getElem? (i := 22) rfl))) (by decide) (backOf (W := 0) (own_vp_rm4 l Z a0 hw [] ((48 : Int32) ||| (p2 &&& (15 : Int32))) w_CONNECT w_DISCONNECT k_w__VALUES w_CONNACK w_PUBLISH w_PUBACK w_PUBREC w_PUBREL w_PUBCOMP w_SUBSCRIBE w_SUBACK w_UNSUBSCRIBE w_UNSUBACK w_PINGREQ w_PINGRESP w__VALUES h0 n0 Z0 (own_hi _) S_CONNECT F_code_w_CONNECT S_DISCONNECT F_code_w_DISCONNECT V_w__VALUES S__VALUES E_w__VALUES F_requiredFlags_w_PUBLISH) hZ (hw _ (List.mem_of_getElem? (i := 22) rfl)) (hw _ (List.mem_of_getElem? (i := 6) rfl)) (by decide) (by decide)) (g := (mkF m 66 #[.val (.int p1), .val (.int p2), .val (.int (2 : Int32)), .val (.ref w_PUBLISH), .val (.int (p2 &&& (15 : Int32))), .val (.int ((48 : Int32) ||| (p2 &&& (15 : Int32)))), .val (.int ((48 : Int32) ||| (p2 &&& (15 : Int32))))] [(.int ((48 : Int32) ||| (p2 &&& (15 : Int32))))])) rfl (by rw [hml]; rfl) (argsL := [(.int ((48 : Int32) ||| (p2 &&& (15 : Int32))))]) (rest := []) (lenOf own_pd119 rfl) rfl (by show 2 * 0 + _ ≤ _; exact Nat.le_of_eq rfl) (hb hby at_66) (fun _ _ => ⟨rfl, e143, (by decide : 0 + 1 ≤ _), (by decide : 0 + 14 ≤ _)⟩)
        dsimp only [Pt.U, Pt.locs, Pt.cells, Pt.slots] at X145 l145 y145 z145 st145 hQ145
        subst l145 y145 z145
        obtain ⟨hv145, N145q, K145⟩ := hQ145
        have f146 := own_staKeep S_CONNECT K145
        have f147 := own_staKeep S_CONNACK K145
        have f148 := own_staKeep S_PUBLISH K145
        have f149 := own_staKeep S_PUBACK K145
        have f150 := own_staKeep S_PUBREC K145
        have f151 := own_staKeep S_PUBREL K145
        have f152 := own_staKeep S_PUBCOMP K145
        have f153 := own_staKeep S_SUBSCRIBE K145
        have f154 := own_staKeep S_SUBACK K145
        have f155 := own_staKeep S_UNSUBSCRIBE K145
        have f156 := own_staKeep S_UNSUBACK K145
        have f157 := own_staKeep S_PINGREQ K145
        have f158 := own_staKeep S_PINGRESP K145
        have f159 := own_staKeep S_DISCONNECT K145
        have f160 := F_requiredFlags_w_CONNECT.keep K145 nin0
        have f161 := F_code_w_CONNECT.keep K145 nin0
        have f162 := E_w_CONNECT.keep K145
        have f163 := F_code_w_DISCONNECT.keep K145 nin0
        have f164 := V_w__VALUES.keep K145 nin0
        have f165 := own_staKeep S__VALUES K145
        have f166 := E_w__VALUES.keep K145
        have f167 := F_requiredFlags_w_CONNACK.keep K145 nin0
        have f168 := F_code_w_CONNACK.keep K145 nin0
        have f169 := E_w_CONNACK.keep K145
        have f170 := F_requiredFlags_w_PUBLISH.keep K145 nin0
        have f171 := F_code_w_PUBLISH.keep K145 nin0
        have f172 := E_w_PUBLISH.keep K145
        have f173 := F_requiredFlags_w_PUBACK.keep K145 nin0
        have f174 := F_code_w_PUBACK.keep K145 nin0
        have f175 := E_w_PUBACK.keep K145
        have f176 := F_requiredFlags_w_PUBREC.keep K145 nin0
        have f177 := F_code_w_PUBREC.keep K145 nin0
        have f178 := E_w_PUBREC.keep K145
        have f179 := F_requiredFlags_w_PUBREL.keep K145 nin0
        have f180 := F_code_w_PUBREL.keep K145 nin0
        have f181 := E_w_PUBREL.keep K145
        have f182 := F_requiredFlags_w_PUBCOMP.keep K145 nin0
        have f183 := F_code_w_PUBCOMP.keep K145 nin0
        have f184 := E_w_PUBCOMP.keep K145
        have f185 := F_requiredFlags_w_SUBSCRIBE.keep K145 nin0
        have f186 := F_code_w_SUBSCRIBE.keep K145 nin0
        have f187 := E_w_SUBSCRIBE.keep K145
        have f188 := F_requiredFlags_w_SUBACK.keep K145 nin0
        have f189 := F_code_w_SUBACK.keep K145 nin0
        have f190 := E_w_SUBACK.keep K145
        have f191 := F_requiredFlags_w_UNSUBSCRIBE.keep K145 nin0
        have f192 := F_code_w_UNSUBSCRIBE.keep K145 nin0
        have f193 := E_w_UNSUBSCRIBE.keep K145
        have f194 := F_requiredFlags_w_UNSUBACK.keep K145 nin0
        have f195 := F_code_w_UNSUBACK.keep K145 nin0
        have f196 := E_w_UNSUBACK.keep K145
        have f197 := F_requiredFlags_w_PINGREQ.keep K145 nin0
        have f198 := F_code_w_PINGREQ.keep K145 nin0
        have f199 := E_w_PINGREQ.keep K145
        have f200 := F_requiredFlags_w_PINGRESP.keep K145 nin0
        have f201 := F_code_w_PINGRESP.keep K145 nin0
        have f202 := E_w_PINGRESP.keep K145
        have f203 := F_requiredFlags_w_DISCONNECT.keep K145 nin0
        have f204 := E_w_DISCONNECT.keep K145
        have Z205 := Nat.le_trans Z0 K145.1
        have N206 := Fr.app N144 N145q
        rw [show (own_vp_f4 w_PUBLISH) = w_PUBLISH from by first | rfl | decide | simp [own_vp_f4]] at hv145
        subst hv145
        obtain ⟨fs, hr, hrun, hended, hW, hsame⟩ := X145.leave (v := some (.int (1 : Int32))) (fun h => by rw [Bd.returns] at h; cases h)
        refine ⟨_, _, k140 _ ?_, hrun, hended, _, _, rfl, ?_, ⟨_, rfl⟩, hW, hsame.mono (by decide) (by decide)⟩
        · show Steps p.tables e below (s₁.setTop (mkF m 7 #[.val (.int p1), .val (.int p2), .unset, .unset, .unset, .unset, .unset] [(.int (2 : Int32))])) _
          refine XS.istoreN X0.here hx rfl (hb hby at_7) rfl (l' := #[.val (.int p1), .val (.int p2), .val (.int (2 : Int32)), .unset, .unset, .unset, .unset]) rfl ?_
          show Steps p.tables e below (s₁.setTop (mkF m 8 #[.val (.int p1), .val (.int p2), .val (.int (2 : Int32)), .unset, .unset, .unset, .unset] [])) _
          refine XS.iloadN X0.here hx rfl (hb hby at_8) rfl ?_
          show Steps p.tables e below (s₁.setTop (mkF m 9 #[.val (.int p1), .val (.int p2), .val (.int (2 : Int32)), .unset, .unset, .unset, .unset] [(.int (2 : Int32))])) _
          refine st141 _ ?_
          show Steps p.tables e below (T141.setTop (mkF m 12 #[.val (.int p1), .val (.int p2), .val (.int (2 : Int32)), .unset, .unset, .unset, .unset] [(.ref w_PUBLISH)])) _
          refine XS.astoreN X141.here hx rfl (hb hby at_12) rfl rfl (l' := #[.val (.int p1), .val (.int p2), .val (.int (2 : Int32)), .val (.ref w_PUBLISH), .unset, .unset, .unset]) rfl ?_
          show Steps p.tables e below (T141.setTop (mkF m 13 #[.val (.int p1), .val (.int p2), .val (.int (2 : Int32)), .val (.ref w_PUBLISH), .unset, .unset, .unset] [])) _
          refine XS.iloadN X141.here hx rfl (hb hby at_13) rfl ?_
          show Steps p.tables e below (T141.setTop (mkF m 14 #[.val (.int p1), .val (.int p2), .val (.int (2 : Int32)), .val (.ref w_PUBLISH), .unset, .unset, .unset] [(.int (2 : Int32))])) _
          refine XS.iconst X141.here hx rfl (hb hby at_14) ?_
          show Steps p.tables e below (T141.setTop (mkF m 15 #[.val (.int p1), .val (.int p2), .val (.int (2 : Int32)), .val (.ref w_PUBLISH), .unset, .unset, .unset] [(.int (2 : Int32)), (.int (2 : Int32))])) _
          refine XS.icmpNo X141.here hx rfl (hb hby at_15) rfl (teq (by decide : (2 : Int32) = (2 : Int32))).2 ?_
          show Steps p.tables e below (T141.setTop (mkF m 18 #[.val (.int p1), .val (.int p2), .val (.int (2 : Int32)), .val (.ref w_PUBLISH), .unset, .unset, .unset] [])) _
          refine XS.iloadN X141.here hx rfl (hb hby at_18) rfl ?_
          show Steps p.tables e below (T141.setTop (mkF m 19 #[.val (.int p1), .val (.int p2), .val (.int (2 : Int32)), .val (.ref w_PUBLISH), .unset, .unset, .unset] [(.int p2)])) _
          refine XS.bipush X141.here hx rfl (hb hby at_19) ?_
          show Steps p.tables e below (T141.setTop (mkF m 21 #[.val (.int p1), .val (.int p2), .val (.int (2 : Int32)), .val (.ref w_PUBLISH), .unset, .unset, .unset] [(.int (15 : Int32)), (.int p2)])) _
          refine XS.iand X141.here hx rfl (hb hby at_21) rfl ?_
          show Steps p.tables e below (T141.setTop (mkF m 22 #[.val (.int p1), .val (.int p2), .val (.int (2 : Int32)), .val (.ref w_PUBLISH), .unset, .unset, .unset] [(.int (p2 &&& (15 : Int32)))])) _
          refine XS.goto X141.here hx rfl (pc0 := 22) (pc' := 26) rfl (hb hby at_22) (by decide) (by decide) ?_
          show Steps p.tables e below (T141.setTop (mkF m 26 #[.val (.int p1), .val (.int p2), .val (.int (2 : Int32)), .val (.ref w_PUBLISH), .unset, .unset, .unset] [(.int (p2 &&& (15 : Int32)))])) _
          refine XS.istore X141.here hx rfl (hb hby at_26) rfl (l' := #[.val (.int p1), .val (.int p2), .val (.int (2 : Int32)), .val (.ref w_PUBLISH), .val (.int (p2 &&& (15 : Int32))), .unset, .unset]) rfl ?_
          show Steps p.tables e below (T141.setTop (mkF m 28 #[.val (.int p1), .val (.int p2), .val (.int (2 : Int32)), .val (.ref w_PUBLISH), .val (.int (p2 &&& (15 : Int32))), .unset, .unset] [])) _
          refine XS.aloadN X141.here hx rfl (hb hby at_28) rfl rfl ?_
          show Steps p.tables e below (T141.setTop (mkF m 29 #[.val (.int p1), .val (.int p2), .val (.int (2 : Int32)), .val (.ref w_PUBLISH), .val (.int (p2 &&& (15 : Int32))), .unset, .unset] [(.ref w_PUBLISH)])) _
          refine XS.iload X141.here hx rfl (hb hby at_29) rfl ?_
          show Steps p.tables e below (T141.setTop (mkF m 31 #[.val (.int p1), .val (.int p2), .val (.int (2 : Int32)), .val (.ref w_PUBLISH), .val (.int (p2 &&& (15 : Int32))), .unset, .unset] [(.int (p2 &&& (15 : Int32))), (.ref w_PUBLISH)])) _
          refine st143.trans ?_
          show Steps p.tables e below (T143.setTop (mkF m 34 #[.val (.int p1), .val (.int p2), .val (.int (2 : Int32)), .val (.ref w_PUBLISH), .val (.int (p2 &&& (15 : Int32))), .unset, .unset] [(.int ((48 : Int32) ||| (p2 &&& (15 : Int32))))])) _
          refine XS.istore X143.here hx rfl (hb hby at_34) rfl (l' := #[.val (.int p1), .val (.int p2), .val (.int (2 : Int32)), .val (.ref w_PUBLISH), .val (.int (p2 &&& (15 : Int32))), .val (.int ((48 : Int32) ||| (p2 &&& (15 : Int32)))), .unset]) rfl ?_
          show Steps p.tables e below (T143.setTop (mkF m 36 #[.val (.int p1), .val (.int p2), .val (.int (2 : Int32)), .val (.ref w_PUBLISH), .val (.int (p2 &&& (15 : Int32))), .val (.int ((48 : Int32) ||| (p2 &&& (15 : Int32)))), .unset] [])) _
          refine XS.iloadN X143.here hx rfl (hb hby at_36) rfl ?_
          show Steps p.tables e below (T143.setTop (mkF m 37 #[.val (.int p1), .val (.int p2), .val (.int (2 : Int32)), .val (.ref w_PUBLISH), .val (.int (p2 &&& (15 : Int32))), .val (.int ((48 : Int32) ||| (p2 &&& (15 : Int32)))), .unset] [(.int (2 : Int32))])) _
          refine XS.iconst X143.here hx rfl (hb hby at_37) ?_
          show Steps p.tables e below (T143.setTop (mkF m 38 #[.val (.int p1), .val (.int p2), .val (.int (2 : Int32)), .val (.ref w_PUBLISH), .val (.int (p2 &&& (15 : Int32))), .val (.int ((48 : Int32) ||| (p2 &&& (15 : Int32)))), .unset] [(.int (2 : Int32)), (.int (2 : Int32))])) _
          refine XS.icmpNo X143.here hx rfl (hb hby at_38) rfl (teq (by decide : (2 : Int32) = (2 : Int32))).2 ?_
          show Steps p.tables e below (T143.setTop (mkF m 41 #[.val (.int p1), .val (.int p2), .val (.int (2 : Int32)), .val (.ref w_PUBLISH), .val (.int (p2 &&& (15 : Int32))), .val (.int ((48 : Int32) ||| (p2 &&& (15 : Int32)))), .unset] [])) _
          refine XS.bipush X143.here hx rfl (hb hby at_41) ?_
          show Steps p.tables e below (T143.setTop (mkF m 43 #[.val (.int p1), .val (.int p2), .val (.int (2 : Int32)), .val (.ref w_PUBLISH), .val (.int (p2 &&& (15 : Int32))), .val (.int ((48 : Int32) ||| (p2 &&& (15 : Int32)))), .unset] [(.int (48 : Int32))])) _
          refine XS.iloadN X143.here hx rfl (hb hby at_43) rfl ?_
          show Steps p.tables e below (T143.setTop (mkF m 44 #[.val (.int p1), .val (.int p2), .val (.int (2 : Int32)), .val (.ref w_PUBLISH), .val (.int (p2 &&& (15 : Int32))), .val (.int ((48 : Int32) ||| (p2 &&& (15 : Int32)))), .unset] [(.int p2), (.int (48 : Int32))])) _
          refine XS.bipush X143.here hx rfl (hb hby at_44) ?_
          show Steps p.tables e below (T143.setTop (mkF m 46 #[.val (.int p1), .val (.int p2), .val (.int (2 : Int32)), .val (.ref w_PUBLISH), .val (.int (p2 &&& (15 : Int32))), .val (.int ((48 : Int32) ||| (p2 &&& (15 : Int32)))), .unset] [(.int (15 : Int32)), (.int p2), (.int (48 : Int32))])) _
          refine XS.iand X143.here hx rfl (hb hby at_46) rfl ?_
          show Steps p.tables e below (T143.setTop (mkF m 47 #[.val (.int p1), .val (.int p2), .val (.int (2 : Int32)), .val (.ref w_PUBLISH), .val (.int (p2 &&& (15 : Int32))), .val (.int ((48 : Int32) ||| (p2 &&& (15 : Int32)))), .unset] [(.int (p2 &&& (15 : Int32))), (.int (48 : Int32))])) _
          refine XS.ior X143.here hx rfl (hb hby at_47) rfl ?_
          show Steps p.tables e below (T143.setTop (mkF m 48 #[.val (.int p1), .val (.int p2), .val (.int (2 : Int32)), .val (.ref w_PUBLISH), .val (.int (p2 &&& (15 : Int32))), .val (.int ((48 : Int32) ||| (p2 &&& (15 : Int32)))), .unset] [(.int ((48 : Int32) ||| (p2 &&& (15 : Int32))))])) _
          refine XS.goto X143.here hx rfl (pc0 := 48) (pc' := 55) rfl (hb hby at_48) (by decide) (by decide) ?_
          show Steps p.tables e below (T143.setTop (mkF m 55 #[.val (.int p1), .val (.int p2), .val (.int (2 : Int32)), .val (.ref w_PUBLISH), .val (.int (p2 &&& (15 : Int32))), .val (.int ((48 : Int32) ||| (p2 &&& (15 : Int32)))), .unset] [(.int ((48 : Int32) ||| (p2 &&& (15 : Int32))))])) _
          refine XS.istore X143.here hx rfl (hb hby at_55) rfl (l' := #[.val (.int p1), .val (.int p2), .val (.int (2 : Int32)), .val (.ref w_PUBLISH), .val (.int (p2 &&& (15 : Int32))), .val (.int ((48 : Int32) ||| (p2 &&& (15 : Int32)))), .val (.int ((48 : Int32) ||| (p2 &&& (15 : Int32))))]) rfl ?_
          show Steps p.tables e below (T143.setTop (mkF m 57 #[.val (.int p1), .val (.int p2), .val (.int (2 : Int32)), .val (.ref w_PUBLISH), .val (.int (p2 &&& (15 : Int32))), .val (.int ((48 : Int32) ||| (p2 &&& (15 : Int32)))), .val (.int ((48 : Int32) ||| (p2 &&& (15 : Int32))))] [])) _
          refine XS.iload X143.here hx rfl (hb hby at_57) rfl ?_
          show Steps p.tables e below (T143.setTop (mkF m 59 #[.val (.int p1), .val (.int p2), .val (.int (2 : Int32)), .val (.ref w_PUBLISH), .val (.int (p2 &&& (15 : Int32))), .val (.int ((48 : Int32) ||| (p2 &&& (15 : Int32)))), .val (.int ((48 : Int32) ||| (p2 &&& (15 : Int32))))] [(.int ((48 : Int32) ||| (p2 &&& (15 : Int32))))])) _
          refine XS.iload X143.here hx rfl (hb hby at_59) rfl ?_
          show Steps p.tables e below (T143.setTop (mkF m 61 #[.val (.int p1), .val (.int p2), .val (.int (2 : Int32)), .val (.ref w_PUBLISH), .val (.int (p2 &&& (15 : Int32))), .val (.int ((48 : Int32) ||| (p2 &&& (15 : Int32)))), .val (.int ((48 : Int32) ||| (p2 &&& (15 : Int32))))] [(.int ((48 : Int32) ||| (p2 &&& (15 : Int32)))), (.int ((48 : Int32) ||| (p2 &&& (15 : Int32))))])) _
          refine XS.icmpNo X143.here hx rfl (hb hby at_61) rfl (teq (rfl : ((48 : Int32) ||| (p2 &&& (15 : Int32))) = ((48 : Int32) ||| (p2 &&& (15 : Int32))))).2 ?_
          show Steps p.tables e below (T143.setTop (mkF m 64 #[.val (.int p1), .val (.int p2), .val (.int (2 : Int32)), .val (.ref w_PUBLISH), .val (.int (p2 &&& (15 : Int32))), .val (.int ((48 : Int32) ||| (p2 &&& (15 : Int32)))), .val (.int ((48 : Int32) ||| (p2 &&& (15 : Int32))))] [])) _
          refine XS.iload X143.here hx rfl (hb hby at_64) rfl ?_
          show Steps p.tables e below (T143.setTop (mkF m 66 #[.val (.int p1), .val (.int p2), .val (.int (2 : Int32)), .val (.ref w_PUBLISH), .val (.int (p2 &&& (15 : Int32))), .val (.int ((48 : Int32) ||| (p2 &&& (15 : Int32)))), .val (.int ((48 : Int32) ||| (p2 &&& (15 : Int32))))] [(.int ((48 : Int32) ||| (p2 &&& (15 : Int32))))])) _
          refine st145 _ ?_
          show Steps p.tables e below (T145.setTop (mkF m 69 #[.val (.int p1), .val (.int p2), .val (.int (2 : Int32)), .val (.ref w_PUBLISH), .val (.int (p2 &&& (15 : Int32))), .val (.int ((48 : Int32) ||| (p2 &&& (15 : Int32)))), .val (.int ((48 : Int32) ||| (p2 &&& (15 : Int32))))] [(.ref w_PUBLISH)])) _
          refine XS.aloadN X145.here hx rfl (hb hby at_69) rfl rfl ?_
          show Steps p.tables e below (T145.setTop (mkF m 70 #[.val (.int p1), .val (.int p2), .val (.int (2 : Int32)), .val (.ref w_PUBLISH), .val (.int (p2 &&& (15 : Int32))), .val (.int ((48 : Int32) ||| (p2 &&& (15 : Int32)))), .val (.int ((48 : Int32) ||| (p2 &&& (15 : Int32))))] [(.ref w_PUBLISH), (.ref w_PUBLISH)])) _
          refine Jvm.RoadKit.acmp (g := (mkF m 70 #[.val (.int p1), .val (.int p2), .val (.int (2 : Int32)), .val (.ref w_PUBLISH), .val (.int (p2 &&& (15 : Int32))), .val (.int ((48 : Int32) ||| (p2 &&& (15 : Int32)))), .val (.int ((48 : Int32) ||| (p2 &&& (15 : Int32))))] [(.ref w_PUBLISH), (.ref w_PUBLISH)])) X145 hx rfl rfl rfl (pc0 := 70) (pc' := 73) (same := true) rfl (hb hby at_70) rfl (decide_eq_true rfl) (by decide) (by decide) ?_
          show Steps p.tables e below (T145.setTop (mkF m 73 #[.val (.int p1), .val (.int p2), .val (.int (2 : Int32)), .val (.ref w_PUBLISH), .val (.int (p2 &&& (15 : Int32))), .val (.int ((48 : Int32) ||| (p2 &&& (15 : Int32)))), .val (.int ((48 : Int32) ||| (p2 &&& (15 : Int32))))] [])) _
          refine XS.iconst X145.here hx rfl (hb hby at_73) ?_
          show Steps p.tables e below (T145.setTop (mkF m 74 #[.val (.int p1), .val (.int p2), .val (.int (2 : Int32)), .val (.ref w_PUBLISH), .val (.int (p2 &&& (15 : Int32))), .val (.int ((48 : Int32) ||| (p2 &&& (15 : Int32)))), .val (.int ((48 : Int32) ||| (p2 &&& (15 : Int32))))] [(.int (1 : Int32))])) _
          refine XS.goto X145.here hx rfl (pc0 := 74) (pc' := 78) rfl (hb hby at_74) (by decide) (by decide) ?_
          show Steps p.tables e below (T145.setTop (mkF m 78 #[.val (.int p1), .val (.int p2), .val (.int (2 : Int32)), .val (.ref w_PUBLISH), .val (.int (p2 &&& (15 : Int32))), .val (.int ((48 : Int32) ||| (p2 &&& (15 : Int32)))), .val (.int ((48 : Int32) ||| (p2 &&& (15 : Int32))))] [(.int (1 : Int32))])) _
          exact retN X145 hx (t := .boolean) Bd.returns (by simp) (hb hby at_78) hr
        · show own_Q0 Z p1 p2 w_CONNECT w_CONNACK w_PUBLISH w_PUBACK w_PUBREC w_PUBREL w_PUBCOMP w_SUBSCRIBE w_SUBACK w_UNSUBSCRIBE w_UNSUBACK w_PINGREQ w_PINGRESP w_DISCONNECT k_w__VALUES w__VALUES h0 n0 _ T145.heap _
          exact ⟨(by rw [own_f0, if_neg hc1, if_neg hc2, if_pos hc3]), N206⟩
      ·
        by_cases hc4 : ((p1 &&& (2147483647 : Int32)) - ((p1 &&& (2147483647 : Int32)) / (14 : Int32)) * (14 : Int32)) = (3 : Int32)
        ·
          have k207 : ∀ t, Steps p.tables e below (s₁.setTop (mkF m 7 #[.val (.int p1), .val (.int p2), .unset, .unset, .unset, .unset, .unset] [(.int (3 : Int32))])) t → Steps p.tables e below (s₁.setTop (entryFrame m #[(.int p1), (.int p2)] maxLocals)) t := by
            intro t kt
            refine k1 t ?_
            rw [hc4]
            exact kt
          obtain ⟨v208, _, ⟨T208, L208, k208, n208⟩, -, X208, ⟨Lc208, hQ208, l208, y208, z208⟩, st208⟩ := Jvm.LawKit.callS X0 hx (y := (⟨"com/example/castd/castd/mqtt/PacketTypeFirstBytePinLaw", "type", "(I)Lcom/example/castd/castd/mqtt/PacketType;"⟩ : MethodName)) hown (mvT hZ (hw _ (List.mem_of_getElem? (i := 1) rfl))) (mvT hZ (hw _ (List.mem_of_getElem? (i := 2) rfl))) (mvT hZ (hw _ (List.mem_of_getElem? (i := 3) rfl))) (mvT hZ (hw _ (List.mem_of_getElem? (i := 4) rfl))) (by decide) (backOf (W := 0) (own_rm1 l Z a0 hw [] (3 : Int32) w_CONNECT w_CONNACK w_PUBLISH w_PUBACK w_PUBREC w_PUBREL w_PUBCOMP w_SUBSCRIBE w_SUBACK w_UNSUBSCRIBE w_UNSUBACK w_PINGREQ w_PINGRESP w_DISCONNECT h0 n0 Z0 S_CONNECT S_CONNACK S_PUBLISH S_PUBACK S_PUBREC S_PUBREL S_PUBCOMP S_SUBSCRIBE S_SUBACK S_UNSUBSCRIBE S_UNSUBACK S_PINGREQ S_PINGRESP S_DISCONNECT) hZ (hw _ (List.mem_of_getElem? (i := 4) rfl)) (hw _ (List.mem_of_getElem? (i := 3) rfl)) (by decide) (by decide)) (g := (mkF m 9 #[.val (.int p1), .val (.int p2), .val (.int (3 : Int32)), .unset, .unset, .unset, .unset] [(.int (3 : Int32))])) rfl (by rw [hml]; rfl) (argsL := [(.int (3 : Int32))]) (rest := []) (lenOf own_pd119 rfl) rfl (by show 2 * 0 + _ ≤ _; exact Nat.le_of_eq rfl) (hb hby at_9) (fun _ _ => ⟨rfl, e0, (by decide : 0 + 0 ≤ _), (by decide : 0 + 0 ≤ _)⟩)
          dsimp only [Pt.U, Pt.locs, Pt.cells, Pt.slots] at X208 l208 y208 z208 st208 hQ208
          subst l208 y208 z208
          obtain ⟨hv208, N208q, e208⟩ := hQ208
          have N209 := Fr.app N0 N208q
          rw [show (own_f1 (3 : Int32) w_CONNECT w_CONNACK w_PUBLISH w_PUBACK w_PUBREC w_PUBREL w_PUBCOMP w_SUBSCRIBE w_SUBACK w_UNSUBSCRIBE w_UNSUBACK w_PINGREQ w_PINGRESP w_DISCONNECT) = w_PUBACK from by first | rfl | decide | simp [own_f1]] at hv208
          subst hv208
          obtain ⟨cq210, kq210, q210a, q210b, q210c⟩ := isOf hZ e208 E_w_PUBACK
          obtain ⟨v210, _, ⟨T210, L210, k210, n210⟩, -, X210, ⟨Lc210, hQ210, l210, y210, z210⟩, st210⟩ := X208.virtualBack hx (y := (⟨"com/example/castd/castd/mqtt/PacketType", "firstByte", "(I)I"⟩ : MethodName)) (z := (⟨"com/example/castd/castd/mqtt/PacketType", "firstByte", "(I)I"⟩ : MethodName)) hown (mvT hZ (hw _ (List.mem_of_getElem? (i := 8) rfl))) (mvT hZ (hw _ (List.mem_of_getElem? (i := 9) rfl))) (notFace_of_selects (args := #[]) (mvT hZ (hw _ (List.mem_of_getElem? (i := 11) rfl)))) (mvT hZ (hw _ (List.mem_of_getElem? (i := 11) rfl))) (mvT hZ (hw _ (List.mem_of_getElem? (i := 10) rfl))) (by decide) (backOf (W := 0) (own_rm2 l Z a0 hw [] w_PUBACK p2 (0 : Int32) (4 : Int32) h0 n0 Z0 F_requiredFlags_w_PUBACK F_code_w_PUBACK) hZ (hw _ (List.mem_of_getElem? (i := 12) rfl)) (hw _ (List.mem_of_getElem? (i := 6) rfl)) (by decide) (by decide)) q210a q210c (g := (mkF m 31 #[.val (.int p1), .val (.int p2), .val (.int (3 : Int32)), .val (.ref w_PUBACK), .val (.int p2), .unset, .unset] [(.int p2), (.ref w_PUBACK)])) rfl (by rw [hml]; rfl) (Steps.refl _) (argsL := [(.int p2)]) (rest := []) (lenOf own_pd120 rfl) rfl (by show 2 * 0 + _ ≤ _; exact Nat.le_of_eq rfl) (hb hby at_31) (fun _ _ => ⟨rfl, e208, (by decide : 0 + 0 ≤ _), (by decide : 0 + 0 ≤ _)⟩)
          dsimp only [Pt.U, Pt.locs, Pt.cells, Pt.slots] at X210 l210 y210 z210 st210 hQ210
          subst l210 y210 z210
          obtain ⟨hv210, N210q, e210⟩ := hQ210
          have N211 := Fr.app N209 N210q
          rw [show (own_f2 p2 (0 : Int32) (4 : Int32)) = (64 : Int32) from by first | rfl | decide | simp [own_f2]] at hv210
          subst hv210
          obtain ⟨v212, _, ⟨T212, L212, k212, n212⟩, -, X212, ⟨Lc212, hQ212, l212, y212, z212⟩, st212⟩ := Jvm.LawKit.callS X210 hx (y := (⟨"com/example/castd/castd/mqtt/PacketTypeFirstBytePinLaw", "fixed", "(I)I"⟩ : MethodName)) hown (mvT hZ (hw _ (List.mem_of_getElem? (i := 17) rfl))) (mvT hZ (hw _ (List.mem_of_getElem? (i := 18) rfl))) (mvT hZ (hw _ (List.mem_of_getElem? (i := 3) rfl))) (mvT hZ (hw _ (List.mem_of_getElem? (i := 19) rfl))) (by decide) (backOf (W := 0) (own_rm3 l Z a0 hw [] (3 : Int32) h0 n0 Z0) hZ (hw _ (List.mem_of_getElem? (i := 19) rfl)) (hw _ (List.mem_of_getElem? (i := 3) rfl)) (by decide) (by decide)) (g := (mkF m 52 #[.val (.int p1), .val (.int p2), .val (.int (3 : Int32)), .val (.ref w_PUBACK), .val (.int p2), .val (.int (64 : Int32)), .unset] [(.int (3 : Int32))])) rfl (by rw [hml]; rfl) (argsL := [(.int (3 : Int32))]) (rest := []) (lenOf own_pd120 rfl) rfl (by show 2 * 0 + _ ≤ _; exact Nat.le_of_eq rfl) (hb hby at_52) (fun _ _ => ⟨rfl, e210, (by decide : 0 + 0 ≤ _), (by decide : 0 + 0 ≤ _)⟩)
          dsimp only [Pt.U, Pt.locs, Pt.cells, Pt.slots] at X212 l212 y212 z212 st212 hQ212
          subst l212 y212 z212
          obtain ⟨hv212, N212q, e212⟩ := hQ212
          have N213 := Fr.app N211 N212q
          rw [show (own_f3 (3 : Int32)) = (64 : Int32) from by first | rfl | decide | simp [own_f3]] at hv212
          subst hv212
          obtain ⟨v214, _, ⟨T214, L214, k214, n214⟩, -, X214, ⟨Lc214, hQ214, l214, y214, z214⟩, st214⟩ := Jvm.LawKit.callS X212 hx (y := (⟨"com/example/castd/castd/mqtt/PacketType", "fromFirstByte", "(I)Lcom/example/castd/castd/mqtt/PacketType;"⟩ : MethodName)) hown (mvT hZ (hw _ (List.mem_of_getElem? (i := 20) rfl))) (mvT hZ (hw _ (List.mem_of_getElem? (i := 21) rfl))) (mvT hZ (hw _ (List.mem_of_getElem? (i := 6) rfl))) (mvT hZ (hw _ (List.mem_of_getElem? (i := 22) rfl))) (by decide) (backOf (W := 0) (own_v64_rm4 l Z a0 hw [] w_CONNECT w_DISCONNECT k_w__VALUES w_CONNACK w_PUBLISH w_PUBACK w_PUBREC w_PUBREL w_PUBCOMP w_SUBSCRIBE w_SUBACK w_UNSUBSCRIBE w_UNSUBACK w_PINGREQ w_PINGRESP w__VALUES h0 n0 Z0 S_CONNECT F_code_w_CONNECT S_DISCONNECT F_code_w_DISCONNECT V_w__VALUES S__VALUES E_w__VALUES F_requiredFlags_w_PUBACK) hZ (hw _ (List.mem_of_getElem? (i := 22) rfl)) (hw _ (List.mem_of_getElem? (i := 6) rfl)) (by decide) (by decide)) (g := (mkF m 66 #[.val (.int p1), .val (.int p2), .val (.int (3 : Int32)), .val (.ref w_PUBACK), .val (.int p2), .val (.int (64 : Int32)), .val (.int (64 : Int32))] [(.int (64 : Int32))])) rfl (by rw [hml]; rfl) (argsL := [(.int (64 : Int32))]) (rest := []) (lenOf own_pd119 rfl) rfl (by show 2 * 0 + _ ≤ _; exact Nat.le_of_eq rfl) (hb hby at_66) (fun _ _ => ⟨rfl, e212, (by decide : 0 + 1 ≤ _), (by decide : 0 + 14 ≤ _)⟩)
          dsimp only [Pt.U, Pt.locs, Pt.cells, Pt.slots] at X214 l214 y214 z214 st214 hQ214
          subst l214 y214 z214
          obtain ⟨hv214, N214q, K214⟩ := hQ214
          have f215 := own_staKeep S_CONNECT K214
          have f216 := own_staKeep S_CONNACK K214
          have f217 := own_staKeep S_PUBLISH K214
          have f218 := own_staKeep S_PUBACK K214
          have f219 := own_staKeep S_PUBREC K214
          have f220 := own_staKeep S_PUBREL K214
          have f221 := own_staKeep S_PUBCOMP K214
          have f222 := own_staKeep S_SUBSCRIBE K214
          have f223 := own_staKeep S_SUBACK K214
          have f224 := own_staKeep S_UNSUBSCRIBE K214
          have f225 := own_staKeep S_UNSUBACK K214
          have f226 := own_staKeep S_PINGREQ K214
          have f227 := own_staKeep S_PINGRESP K214
          have f228 := own_staKeep S_DISCONNECT K214
          have f229 := F_requiredFlags_w_CONNECT.keep K214 nin0
          have f230 := F_code_w_CONNECT.keep K214 nin0
          have f231 := E_w_CONNECT.keep K214
          have f232 := F_code_w_DISCONNECT.keep K214 nin0
          have f233 := V_w__VALUES.keep K214 nin0
          have f234 := own_staKeep S__VALUES K214
          have f235 := E_w__VALUES.keep K214
          have f236 := F_requiredFlags_w_CONNACK.keep K214 nin0
          have f237 := F_code_w_CONNACK.keep K214 nin0
          have f238 := E_w_CONNACK.keep K214
          have f239 := F_requiredFlags_w_PUBLISH.keep K214 nin0
          have f240 := F_code_w_PUBLISH.keep K214 nin0
          have f241 := E_w_PUBLISH.keep K214
          have f242 := F_requiredFlags_w_PUBACK.keep K214 nin0
          have f243 := F_code_w_PUBACK.keep K214 nin0
          have f244 := E_w_PUBACK.keep K214
          have f245 := F_requiredFlags_w_PUBREC.keep K214 nin0
          have f246 := F_code_w_PUBREC.keep K214 nin0
          have f247 := E_w_PUBREC.keep K214
          have f248 := F_requiredFlags_w_PUBREL.keep K214 nin0
          have f249 := F_code_w_PUBREL.keep K214 nin0
          have f250 := E_w_PUBREL.keep K214
          have f251 := F_requiredFlags_w_PUBCOMP.keep K214 nin0
          have f252 := F_code_w_PUBCOMP.keep K214 nin0
          have f253 := E_w_PUBCOMP.keep K214
          have f254 := F_requiredFlags_w_SUBSCRIBE.keep K214 nin0
          have f255 := F_code_w_SUBSCRIBE.keep K214 nin0
          have f256 := E_w_SUBSCRIBE.keep K214
          have f257 := F_requiredFlags_w_SUBACK.keep K214 nin0
          have f258 := F_code_w_SUBACK.keep K214 nin0
          have f259 := E_w_SUBACK.keep K214
          have f260 := F_requiredFlags_w_UNSUBSCRIBE.keep K214 nin0
          have f261 := F_code_w_UNSUBSCRIBE.keep K214 nin0
          have f262 := E_w_UNSUBSCRIBE.keep K214
          have f263 := F_requiredFlags_w_UNSUBACK.keep K214 nin0
          have f264 := F_code_w_UNSUBACK.keep K214 nin0
          have f265 := E_w_UNSUBACK.keep K214
          have f266 := F_requiredFlags_w_PINGREQ.keep K214 nin0
          have f267 := F_code_w_PINGREQ.keep K214 nin0
          have f268 := E_w_PINGREQ.keep K214
          have f269 := F_requiredFlags_w_PINGRESP.keep K214 nin0
          have f270 := F_code_w_PINGRESP.keep K214 nin0
          have f271 := E_w_PINGRESP.keep K214
          have f272 := F_requiredFlags_w_DISCONNECT.keep K214 nin0
          have f273 := E_w_DISCONNECT.keep K214
          have Z274 := Nat.le_trans Z0 K214.1
          have N275 := Fr.app N213 N214q
          rw [show (own_v64_f4 w_PUBACK) = w_PUBACK from by first | rfl | decide | simp [own_v64_f4]] at hv214
          subst hv214
          obtain ⟨fs, hr, hrun, hended, hW, hsame⟩ := X214.leave (v := some (.int (1 : Int32))) (fun h => by rw [Bd.returns] at h; cases h)
          refine ⟨_, _, k207 _ ?_, hrun, hended, _, _, rfl, ?_, ⟨_, rfl⟩, hW, hsame.mono (by decide) (by decide)⟩
          · show Steps p.tables e below (s₁.setTop (mkF m 7 #[.val (.int p1), .val (.int p2), .unset, .unset, .unset, .unset, .unset] [(.int (3 : Int32))])) _
            refine XS.istoreN X0.here hx rfl (hb hby at_7) rfl (l' := #[.val (.int p1), .val (.int p2), .val (.int (3 : Int32)), .unset, .unset, .unset, .unset]) rfl ?_
            show Steps p.tables e below (s₁.setTop (mkF m 8 #[.val (.int p1), .val (.int p2), .val (.int (3 : Int32)), .unset, .unset, .unset, .unset] [])) _
            refine XS.iloadN X0.here hx rfl (hb hby at_8) rfl ?_
            show Steps p.tables e below (s₁.setTop (mkF m 9 #[.val (.int p1), .val (.int p2), .val (.int (3 : Int32)), .unset, .unset, .unset, .unset] [(.int (3 : Int32))])) _
            refine st208 _ ?_
            show Steps p.tables e below (T208.setTop (mkF m 12 #[.val (.int p1), .val (.int p2), .val (.int (3 : Int32)), .unset, .unset, .unset, .unset] [(.ref w_PUBACK)])) _
            refine XS.astoreN X208.here hx rfl (hb hby at_12) rfl rfl (l' := #[.val (.int p1), .val (.int p2), .val (.int (3 : Int32)), .val (.ref w_PUBACK), .unset, .unset, .unset]) rfl ?_
            show Steps p.tables e below (T208.setTop (mkF m 13 #[.val (.int p1), .val (.int p2), .val (.int (3 : Int32)), .val (.ref w_PUBACK), .unset, .unset, .unset] [])) _
            refine XS.iloadN X208.here hx rfl (hb hby at_13) rfl ?_
            show Steps p.tables e below (T208.setTop (mkF m 14 #[.val (.int p1), .val (.int p2), .val (.int (3 : Int32)), .val (.ref w_PUBACK), .unset, .unset, .unset] [(.int (3 : Int32))])) _
            refine XS.iconst X208.here hx rfl (hb hby at_14) ?_
            show Steps p.tables e below (T208.setTop (mkF m 15 #[.val (.int p1), .val (.int p2), .val (.int (3 : Int32)), .val (.ref w_PUBACK), .unset, .unset, .unset] [(.int (2 : Int32)), (.int (3 : Int32))])) _
            refine XS.icmpYes X208.here hx rfl (pc0 := 15) (pc' := 25) rfl (hb hby at_15) rfl (feq (by decide : ¬ ((3 : Int32) = (2 : Int32)))).2 (by decide) (by decide) ?_
            show Steps p.tables e below (T208.setTop (mkF m 25 #[.val (.int p1), .val (.int p2), .val (.int (3 : Int32)), .val (.ref w_PUBACK), .unset, .unset, .unset] [])) _
            refine XS.iloadN X208.here hx rfl (hb hby at_25) rfl ?_
            show Steps p.tables e below (T208.setTop (mkF m 26 #[.val (.int p1), .val (.int p2), .val (.int (3 : Int32)), .val (.ref w_PUBACK), .unset, .unset, .unset] [(.int p2)])) _
            refine XS.istore X208.here hx rfl (hb hby at_26) rfl (l' := #[.val (.int p1), .val (.int p2), .val (.int (3 : Int32)), .val (.ref w_PUBACK), .val (.int p2), .unset, .unset]) rfl ?_
            show Steps p.tables e below (T208.setTop (mkF m 28 #[.val (.int p1), .val (.int p2), .val (.int (3 : Int32)), .val (.ref w_PUBACK), .val (.int p2), .unset, .unset] [])) _
            refine XS.aloadN X208.here hx rfl (hb hby at_28) rfl rfl ?_
            show Steps p.tables e below (T208.setTop (mkF m 29 #[.val (.int p1), .val (.int p2), .val (.int (3 : Int32)), .val (.ref w_PUBACK), .val (.int p2), .unset, .unset] [(.ref w_PUBACK)])) _
            refine XS.iload X208.here hx rfl (hb hby at_29) rfl ?_
            show Steps p.tables e below (T208.setTop (mkF m 31 #[.val (.int p1), .val (.int p2), .val (.int (3 : Int32)), .val (.ref w_PUBACK), .val (.int p2), .unset, .unset] [(.int p2), (.ref w_PUBACK)])) _
            refine st210.trans ?_
            show Steps p.tables e below (T210.setTop (mkF m 34 #[.val (.int p1), .val (.int p2), .val (.int (3 : Int32)), .val (.ref w_PUBACK), .val (.int p2), .unset, .unset] [(.int (64 : Int32))])) _
            refine XS.istore X210.here hx rfl (hb hby at_34) rfl (l' := #[.val (.int p1), .val (.int p2), .val (.int (3 : Int32)), .val (.ref w_PUBACK), .val (.int p2), .val (.int (64 : Int32)), .unset]) rfl ?_
            show Steps p.tables e below (T210.setTop (mkF m 36 #[.val (.int p1), .val (.int p2), .val (.int (3 : Int32)), .val (.ref w_PUBACK), .val (.int p2), .val (.int (64 : Int32)), .unset] [])) _
            refine XS.iloadN X210.here hx rfl (hb hby at_36) rfl ?_
            show Steps p.tables e below (T210.setTop (mkF m 37 #[.val (.int p1), .val (.int p2), .val (.int (3 : Int32)), .val (.ref w_PUBACK), .val (.int p2), .val (.int (64 : Int32)), .unset] [(.int (3 : Int32))])) _
            refine XS.iconst X210.here hx rfl (hb hby at_37) ?_
            show Steps p.tables e below (T210.setTop (mkF m 38 #[.val (.int p1), .val (.int p2), .val (.int (3 : Int32)), .val (.ref w_PUBACK), .val (.int p2), .val (.int (64 : Int32)), .unset] [(.int (2 : Int32)), (.int (3 : Int32))])) _
            refine XS.icmpYes X210.here hx rfl (pc0 := 38) (pc' := 51) rfl (hb hby at_38) rfl (feq (by decide : ¬ ((3 : Int32) = (2 : Int32)))).2 (by decide) (by decide) ?_
            show Steps p.tables e below (T210.setTop (mkF m 51 #[.val (.int p1), .val (.int p2), .val (.int (3 : Int32)), .val (.ref w_PUBACK), .val (.int p2), .val (.int (64 : Int32)), .unset] [])) _
            refine XS.iloadN X210.here hx rfl (hb hby at_51) rfl ?_
            show Steps p.tables e below (T210.setTop (mkF m 52 #[.val (.int p1), .val (.int p2), .val (.int (3 : Int32)), .val (.ref w_PUBACK), .val (.int p2), .val (.int (64 : Int32)), .unset] [(.int (3 : Int32))])) _
            refine st212 _ ?_
            show Steps p.tables e below (T212.setTop (mkF m 55 #[.val (.int p1), .val (.int p2), .val (.int (3 : Int32)), .val (.ref w_PUBACK), .val (.int p2), .val (.int (64 : Int32)), .unset] [(.int (64 : Int32))])) _
            refine XS.istore X212.here hx rfl (hb hby at_55) rfl (l' := #[.val (.int p1), .val (.int p2), .val (.int (3 : Int32)), .val (.ref w_PUBACK), .val (.int p2), .val (.int (64 : Int32)), .val (.int (64 : Int32))]) rfl ?_
            show Steps p.tables e below (T212.setTop (mkF m 57 #[.val (.int p1), .val (.int p2), .val (.int (3 : Int32)), .val (.ref w_PUBACK), .val (.int p2), .val (.int (64 : Int32)), .val (.int (64 : Int32))] [])) _
            refine XS.iload X212.here hx rfl (hb hby at_57) rfl ?_
            show Steps p.tables e below (T212.setTop (mkF m 59 #[.val (.int p1), .val (.int p2), .val (.int (3 : Int32)), .val (.ref w_PUBACK), .val (.int p2), .val (.int (64 : Int32)), .val (.int (64 : Int32))] [(.int (64 : Int32))])) _
            refine XS.iload X212.here hx rfl (hb hby at_59) rfl ?_
            show Steps p.tables e below (T212.setTop (mkF m 61 #[.val (.int p1), .val (.int p2), .val (.int (3 : Int32)), .val (.ref w_PUBACK), .val (.int p2), .val (.int (64 : Int32)), .val (.int (64 : Int32))] [(.int (64 : Int32)), (.int (64 : Int32))])) _
            refine XS.icmpNo X212.here hx rfl (hb hby at_61) rfl (teq (by decide : (64 : Int32) = (64 : Int32))).2 ?_
            show Steps p.tables e below (T212.setTop (mkF m 64 #[.val (.int p1), .val (.int p2), .val (.int (3 : Int32)), .val (.ref w_PUBACK), .val (.int p2), .val (.int (64 : Int32)), .val (.int (64 : Int32))] [])) _
            refine XS.iload X212.here hx rfl (hb hby at_64) rfl ?_
            show Steps p.tables e below (T212.setTop (mkF m 66 #[.val (.int p1), .val (.int p2), .val (.int (3 : Int32)), .val (.ref w_PUBACK), .val (.int p2), .val (.int (64 : Int32)), .val (.int (64 : Int32))] [(.int (64 : Int32))])) _
            refine st214 _ ?_
            show Steps p.tables e below (T214.setTop (mkF m 69 #[.val (.int p1), .val (.int p2), .val (.int (3 : Int32)), .val (.ref w_PUBACK), .val (.int p2), .val (.int (64 : Int32)), .val (.int (64 : Int32))] [(.ref w_PUBACK)])) _
            refine XS.aloadN X214.here hx rfl (hb hby at_69) rfl rfl ?_
            show Steps p.tables e below (T214.setTop (mkF m 70 #[.val (.int p1), .val (.int p2), .val (.int (3 : Int32)), .val (.ref w_PUBACK), .val (.int p2), .val (.int (64 : Int32)), .val (.int (64 : Int32))] [(.ref w_PUBACK), (.ref w_PUBACK)])) _
            refine Jvm.RoadKit.acmp (g := (mkF m 70 #[.val (.int p1), .val (.int p2), .val (.int (3 : Int32)), .val (.ref w_PUBACK), .val (.int p2), .val (.int (64 : Int32)), .val (.int (64 : Int32))] [(.ref w_PUBACK), (.ref w_PUBACK)])) X214 hx rfl rfl rfl (pc0 := 70) (pc' := 73) (same := true) rfl (hb hby at_70) rfl (decide_eq_true rfl) (by decide) (by decide) ?_
            show Steps p.tables e below (T214.setTop (mkF m 73 #[.val (.int p1), .val (.int p2), .val (.int (3 : Int32)), .val (.ref w_PUBACK), .val (.int p2), .val (.int (64 : Int32)), .val (.int (64 : Int32))] [])) _
            refine XS.iconst X214.here hx rfl (hb hby at_73) ?_
            show Steps p.tables e below (T214.setTop (mkF m 74 #[.val (.int p1), .val (.int p2), .val (.int (3 : Int32)), .val (.ref w_PUBACK), .val (.int p2), .val (.int (64 : Int32)), .val (.int (64 : Int32))] [(.int (1 : Int32))])) _
            refine XS.goto X214.here hx rfl (pc0 := 74) (pc' := 78) rfl (hb hby at_74) (by decide) (by decide) ?_
            show Steps p.tables e below (T214.setTop (mkF m 78 #[.val (.int p1), .val (.int p2), .val (.int (3 : Int32)), .val (.ref w_PUBACK), .val (.int p2), .val (.int (64 : Int32)), .val (.int (64 : Int32))] [(.int (1 : Int32))])) _
            exact retN X214 hx (t := .boolean) Bd.returns (by simp) (hb hby at_78) hr
          · show own_Q0 Z p1 p2 w_CONNECT w_CONNACK w_PUBLISH w_PUBACK w_PUBREC w_PUBREL w_PUBCOMP w_SUBSCRIBE w_SUBACK w_UNSUBSCRIBE w_UNSUBACK w_PINGREQ w_PINGRESP w_DISCONNECT k_w__VALUES w__VALUES h0 n0 _ T214.heap _
            exact ⟨(by rw [own_f0, if_neg hc1, if_neg hc2, if_neg hc3, if_pos hc4]), N275⟩
        ·
          by_cases hc5 : ((p1 &&& (2147483647 : Int32)) - ((p1 &&& (2147483647 : Int32)) / (14 : Int32)) * (14 : Int32)) = (4 : Int32)
          ·
            have k276 : ∀ t, Steps p.tables e below (s₁.setTop (mkF m 7 #[.val (.int p1), .val (.int p2), .unset, .unset, .unset, .unset, .unset] [(.int (4 : Int32))])) t → Steps p.tables e below (s₁.setTop (entryFrame m #[(.int p1), (.int p2)] maxLocals)) t := by
              intro t kt
              refine k1 t ?_
              rw [hc5]
              exact kt
            obtain ⟨v277, _, ⟨T277, L277, k277, n277⟩, -, X277, ⟨Lc277, hQ277, l277, y277, z277⟩, st277⟩ := Jvm.LawKit.callS X0 hx (y := (⟨"com/example/castd/castd/mqtt/PacketTypeFirstBytePinLaw", "type", "(I)Lcom/example/castd/castd/mqtt/PacketType;"⟩ : MethodName)) hown (mvT hZ (hw _ (List.mem_of_getElem? (i := 1) rfl))) (mvT hZ (hw _ (List.mem_of_getElem? (i := 2) rfl))) (mvT hZ (hw _ (List.mem_of_getElem? (i := 3) rfl))) (mvT hZ (hw _ (List.mem_of_getElem? (i := 4) rfl))) (by decide) (backOf (W := 0) (own_rm1 l Z a0 hw [] (4 : Int32) w_CONNECT w_CONNACK w_PUBLISH w_PUBACK w_PUBREC w_PUBREL w_PUBCOMP w_SUBSCRIBE w_SUBACK w_UNSUBSCRIBE w_UNSUBACK w_PINGREQ w_PINGRESP w_DISCONNECT h0 n0 Z0 S_CONNECT S_CONNACK S_PUBLISH S_PUBACK S_PUBREC S_PUBREL S_PUBCOMP S_SUBSCRIBE S_SUBACK S_UNSUBSCRIBE S_UNSUBACK S_PINGREQ S_PINGRESP S_DISCONNECT) hZ (hw _ (List.mem_of_getElem? (i := 4) rfl)) (hw _ (List.mem_of_getElem? (i := 3) rfl)) (by decide) (by decide)) (g := (mkF m 9 #[.val (.int p1), .val (.int p2), .val (.int (4 : Int32)), .unset, .unset, .unset, .unset] [(.int (4 : Int32))])) rfl (by rw [hml]; rfl) (argsL := [(.int (4 : Int32))]) (rest := []) (lenOf own_pd119 rfl) rfl (by show 2 * 0 + _ ≤ _; exact Nat.le_of_eq rfl) (hb hby at_9) (fun _ _ => ⟨rfl, e0, (by decide : 0 + 0 ≤ _), (by decide : 0 + 0 ≤ _)⟩)
            dsimp only [Pt.U, Pt.locs, Pt.cells, Pt.slots] at X277 l277 y277 z277 st277 hQ277
            subst l277 y277 z277
            obtain ⟨hv277, N277q, e277⟩ := hQ277
            have N278 := Fr.app N0 N277q
            rw [show (own_f1 (4 : Int32) w_CONNECT w_CONNACK w_PUBLISH w_PUBACK w_PUBREC w_PUBREL w_PUBCOMP w_SUBSCRIBE w_SUBACK w_UNSUBSCRIBE w_UNSUBACK w_PINGREQ w_PINGRESP w_DISCONNECT) = w_PUBREC from by first | rfl | decide | simp [own_f1]] at hv277
            subst hv277
            obtain ⟨cq279, kq279, q279a, q279b, q279c⟩ := isOf hZ e277 E_w_PUBREC
            obtain ⟨v279, _, ⟨T279, L279, k279, n279⟩, -, X279, ⟨Lc279, hQ279, l279, y279, z279⟩, st279⟩ := X277.virtualBack hx (y := (⟨"com/example/castd/castd/mqtt/PacketType", "firstByte", "(I)I"⟩ : MethodName)) (z := (⟨"com/example/castd/castd/mqtt/PacketType", "firstByte", "(I)I"⟩ : MethodName)) hown (mvT hZ (hw _ (List.mem_of_getElem? (i := 8) rfl))) (mvT hZ (hw _ (List.mem_of_getElem? (i := 9) rfl))) (notFace_of_selects (args := #[]) (mvT hZ (hw _ (List.mem_of_getElem? (i := 11) rfl)))) (mvT hZ (hw _ (List.mem_of_getElem? (i := 11) rfl))) (mvT hZ (hw _ (List.mem_of_getElem? (i := 10) rfl))) (by decide) (backOf (W := 0) (own_rm2 l Z a0 hw [] w_PUBREC p2 (0 : Int32) (5 : Int32) h0 n0 Z0 F_requiredFlags_w_PUBREC F_code_w_PUBREC) hZ (hw _ (List.mem_of_getElem? (i := 12) rfl)) (hw _ (List.mem_of_getElem? (i := 6) rfl)) (by decide) (by decide)) q279a q279c (g := (mkF m 31 #[.val (.int p1), .val (.int p2), .val (.int (4 : Int32)), .val (.ref w_PUBREC), .val (.int p2), .unset, .unset] [(.int p2), (.ref w_PUBREC)])) rfl (by rw [hml]; rfl) (Steps.refl _) (argsL := [(.int p2)]) (rest := []) (lenOf own_pd120 rfl) rfl (by show 2 * 0 + _ ≤ _; exact Nat.le_of_eq rfl) (hb hby at_31) (fun _ _ => ⟨rfl, e277, (by decide : 0 + 0 ≤ _), (by decide : 0 + 0 ≤ _)⟩)
            dsimp only [Pt.U, Pt.locs, Pt.cells, Pt.slots] at X279 l279 y279 z279 st279 hQ279
            subst l279 y279 z279
            obtain ⟨hv279, N279q, e279⟩ := hQ279
            have N280 := Fr.app N278 N279q
            rw [show (own_f2 p2 (0 : Int32) (5 : Int32)) = (80 : Int32) from by first | rfl | decide | simp [own_f2]] at hv279
            subst hv279
            obtain ⟨v281, _, ⟨T281, L281, k281, n281⟩, -, X281, ⟨Lc281, hQ281, l281, y281, z281⟩, st281⟩ := Jvm.LawKit.callS X279 hx (y := (⟨"com/example/castd/castd/mqtt/PacketTypeFirstBytePinLaw", "fixed", "(I)I"⟩ : MethodName)) hown (mvT hZ (hw _ (List.mem_of_getElem? (i := 17) rfl))) (mvT hZ (hw _ (List.mem_of_getElem? (i := 18) rfl))) (mvT hZ (hw _ (List.mem_of_getElem? (i := 3) rfl))) (mvT hZ (hw _ (List.mem_of_getElem? (i := 19) rfl))) (by decide) (backOf (W := 0) (own_rm3 l Z a0 hw [] (4 : Int32) h0 n0 Z0) hZ (hw _ (List.mem_of_getElem? (i := 19) rfl)) (hw _ (List.mem_of_getElem? (i := 3) rfl)) (by decide) (by decide)) (g := (mkF m 52 #[.val (.int p1), .val (.int p2), .val (.int (4 : Int32)), .val (.ref w_PUBREC), .val (.int p2), .val (.int (80 : Int32)), .unset] [(.int (4 : Int32))])) rfl (by rw [hml]; rfl) (argsL := [(.int (4 : Int32))]) (rest := []) (lenOf own_pd120 rfl) rfl (by show 2 * 0 + _ ≤ _; exact Nat.le_of_eq rfl) (hb hby at_52) (fun _ _ => ⟨rfl, e279, (by decide : 0 + 0 ≤ _), (by decide : 0 + 0 ≤ _)⟩)
            dsimp only [Pt.U, Pt.locs, Pt.cells, Pt.slots] at X281 l281 y281 z281 st281 hQ281
            subst l281 y281 z281
            obtain ⟨hv281, N281q, e281⟩ := hQ281
            have N282 := Fr.app N280 N281q
            rw [show (own_f3 (4 : Int32)) = (80 : Int32) from by first | rfl | decide | simp [own_f3]] at hv281
            subst hv281
            obtain ⟨v283, _, ⟨T283, L283, k283, n283⟩, -, X283, ⟨Lc283, hQ283, l283, y283, z283⟩, st283⟩ := Jvm.LawKit.callS X281 hx (y := (⟨"com/example/castd/castd/mqtt/PacketType", "fromFirstByte", "(I)Lcom/example/castd/castd/mqtt/PacketType;"⟩ : MethodName)) hown (mvT hZ (hw _ (List.mem_of_getElem? (i := 20) rfl))) (mvT hZ (hw _ (List.mem_of_getElem? (i := 21) rfl))) (mvT hZ (hw _ (List.mem_of_getElem? (i := 6) rfl))) (mvT hZ (hw _ (List.mem_of_getElem? (i := 22) rfl))) (by decide) (backOf (W := 0) (own_v80_rm4 l Z a0 hw [] w_CONNECT w_DISCONNECT k_w__VALUES w_CONNACK w_PUBLISH w_PUBACK w_PUBREC w_PUBREL w_PUBCOMP w_SUBSCRIBE w_SUBACK w_UNSUBSCRIBE w_UNSUBACK w_PINGREQ w_PINGRESP w__VALUES h0 n0 Z0 S_CONNECT F_code_w_CONNECT S_DISCONNECT F_code_w_DISCONNECT V_w__VALUES S__VALUES E_w__VALUES F_requiredFlags_w_PUBREC) hZ (hw _ (List.mem_of_getElem? (i := 22) rfl)) (hw _ (List.mem_of_getElem? (i := 6) rfl)) (by decide) (by decide)) (g := (mkF m 66 #[.val (.int p1), .val (.int p2), .val (.int (4 : Int32)), .val (.ref w_PUBREC), .val (.int p2), .val (.int (80 : Int32)), .val (.int (80 : Int32))] [(.int (80 : Int32))])) rfl (by rw [hml]; rfl) (argsL := [(.int (80 : Int32))]) (rest := []) (lenOf own_pd119 rfl) rfl (by show 2 * 0 + _ ≤ _; exact Nat.le_of_eq rfl) (hb hby at_66) (fun _ _ => ⟨rfl, e281, (by decide : 0 + 1 ≤ _), (by decide : 0 + 14 ≤ _)⟩)
            dsimp only [Pt.U, Pt.locs, Pt.cells, Pt.slots] at X283 l283 y283 z283 st283 hQ283
            subst l283 y283 z283
            obtain ⟨hv283, N283q, K283⟩ := hQ283
            have f284 := own_staKeep S_CONNECT K283
            have f285 := own_staKeep S_CONNACK K283
            have f286 := own_staKeep S_PUBLISH K283
            have f287 := own_staKeep S_PUBACK K283
            have f288 := own_staKeep S_PUBREC K283
            have f289 := own_staKeep S_PUBREL K283
            have f290 := own_staKeep S_PUBCOMP K283
            have f291 := own_staKeep S_SUBSCRIBE K283
            have f292 := own_staKeep S_SUBACK K283
            have f293 := own_staKeep S_UNSUBSCRIBE K283
            have f294 := own_staKeep S_UNSUBACK K283
            have f295 := own_staKeep S_PINGREQ K283
            have f296 := own_staKeep S_PINGRESP K283
            have f297 := own_staKeep S_DISCONNECT K283
            have f298 := F_requiredFlags_w_CONNECT.keep K283 nin0
            have f299 := F_code_w_CONNECT.keep K283 nin0
            have f300 := E_w_CONNECT.keep K283
            have f301 := F_code_w_DISCONNECT.keep K283 nin0
            have f302 := V_w__VALUES.keep K283 nin0
            have f303 := own_staKeep S__VALUES K283
            have f304 := E_w__VALUES.keep K283
            have f305 := F_requiredFlags_w_CONNACK.keep K283 nin0
            have f306 := F_code_w_CONNACK.keep K283 nin0
            have f307 := E_w_CONNACK.keep K283
            have f308 := F_requiredFlags_w_PUBLISH.keep K283 nin0
            have f309 := F_code_w_PUBLISH.keep K283 nin0
            have f310 := E_w_PUBLISH.keep K283
            have f311 := F_requiredFlags_w_PUBACK.keep K283 nin0
            have f312 := F_code_w_PUBACK.keep K283 nin0
            have f313 := E_w_PUBACK.keep K283
            have f314 := F_requiredFlags_w_PUBREC.keep K283 nin0
            have f315 := F_code_w_PUBREC.keep K283 nin0
            have f316 := E_w_PUBREC.keep K283
            have f317 := F_requiredFlags_w_PUBREL.keep K283 nin0
            have f318 := F_code_w_PUBREL.keep K283 nin0
            have f319 := E_w_PUBREL.keep K283
            have f320 := F_requiredFlags_w_PUBCOMP.keep K283 nin0
            have f321 := F_code_w_PUBCOMP.keep K283 nin0
            have f322 := E_w_PUBCOMP.keep K283
            have f323 := F_requiredFlags_w_SUBSCRIBE.keep K283 nin0
            have f324 := F_code_w_SUBSCRIBE.keep K283 nin0
            have f325 := E_w_SUBSCRIBE.keep K283
            have f326 := F_requiredFlags_w_SUBACK.keep K283 nin0
            have f327 := F_code_w_SUBACK.keep K283 nin0
            have f328 := E_w_SUBACK.keep K283
            have f329 := F_requiredFlags_w_UNSUBSCRIBE.keep K283 nin0
            have f330 := F_code_w_UNSUBSCRIBE.keep K283 nin0
            have f331 := E_w_UNSUBSCRIBE.keep K283
            have f332 := F_requiredFlags_w_UNSUBACK.keep K283 nin0
            have f333 := F_code_w_UNSUBACK.keep K283 nin0
            have f334 := E_w_UNSUBACK.keep K283
            have f335 := F_requiredFlags_w_PINGREQ.keep K283 nin0
            have f336 := F_code_w_PINGREQ.keep K283 nin0
            have f337 := E_w_PINGREQ.keep K283
            have f338 := F_requiredFlags_w_PINGRESP.keep K283 nin0
            have f339 := F_code_w_PINGRESP.keep K283 nin0
            have f340 := E_w_PINGRESP.keep K283
            have f341 := F_requiredFlags_w_DISCONNECT.keep K283 nin0
            have f342 := E_w_DISCONNECT.keep K283
            have Z343 := Nat.le_trans Z0 K283.1
            have N344 := Fr.app N282 N283q
            rw [show (own_v80_f4 w_PUBREC) = w_PUBREC from by first | rfl | decide | simp [own_v80_f4]] at hv283
            subst hv283
            obtain ⟨fs, hr, hrun, hended, hW, hsame⟩ := X283.leave (v := some (.int (1 : Int32))) (fun h => by rw [Bd.returns] at h; cases h)
            refine ⟨_, _, k276 _ ?_, hrun, hended, _, _, rfl, ?_, ⟨_, rfl⟩, hW, hsame.mono (by decide) (by decide)⟩
            · show Steps p.tables e below (s₁.setTop (mkF m 7 #[.val (.int p1), .val (.int p2), .unset, .unset, .unset, .unset, .unset] [(.int (4 : Int32))])) _
              refine XS.istoreN X0.here hx rfl (hb hby at_7) rfl (l' := #[.val (.int p1), .val (.int p2), .val (.int (4 : Int32)), .unset, .unset, .unset, .unset]) rfl ?_
              show Steps p.tables e below (s₁.setTop (mkF m 8 #[.val (.int p1), .val (.int p2), .val (.int (4 : Int32)), .unset, .unset, .unset, .unset] [])) _
              refine XS.iloadN X0.here hx rfl (hb hby at_8) rfl ?_
              show Steps p.tables e below (s₁.setTop (mkF m 9 #[.val (.int p1), .val (.int p2), .val (.int (4 : Int32)), .unset, .unset, .unset, .unset] [(.int (4 : Int32))])) _
              refine st277 _ ?_
              show Steps p.tables e below (T277.setTop (mkF m 12 #[.val (.int p1), .val (.int p2), .val (.int (4 : Int32)), .unset, .unset, .unset, .unset] [(.ref w_PUBREC)])) _
              refine XS.astoreN X277.here hx rfl (hb hby at_12) rfl rfl (l' := #[.val (.int p1), .val (.int p2), .val (.int (4 : Int32)), .val (.ref w_PUBREC), .unset, .unset, .unset]) rfl ?_
              show Steps p.tables e below (T277.setTop (mkF m 13 #[.val (.int p1), .val (.int p2), .val (.int (4 : Int32)), .val (.ref w_PUBREC), .unset, .unset, .unset] [])) _
              refine XS.iloadN X277.here hx rfl (hb hby at_13) rfl ?_
              show Steps p.tables e below (T277.setTop (mkF m 14 #[.val (.int p1), .val (.int p2), .val (.int (4 : Int32)), .val (.ref w_PUBREC), .unset, .unset, .unset] [(.int (4 : Int32))])) _
              refine XS.iconst X277.here hx rfl (hb hby at_14) ?_
              show Steps p.tables e below (T277.setTop (mkF m 15 #[.val (.int p1), .val (.int p2), .val (.int (4 : Int32)), .val (.ref w_PUBREC), .unset, .unset, .unset] [(.int (2 : Int32)), (.int (4 : Int32))])) _
              refine XS.icmpYes X277.here hx rfl (pc0 := 15) (pc' := 25) rfl (hb hby at_15) rfl (feq (by decide : ¬ ((4 : Int32) = (2 : Int32)))).2 (by decide) (by decide) ?_
              show Steps p.tables e below (T277.setTop (mkF m 25 #[.val (.int p1), .val (.int p2), .val (.int (4 : Int32)), .val (.ref w_PUBREC), .unset, .unset, .unset] [])) _
              refine XS.iloadN X277.here hx rfl (hb hby at_25) rfl ?_
              show Steps p.tables e below (T277.setTop (mkF m 26 #[.val (.int p1), .val (.int p2), .val (.int (4 : Int32)), .val (.ref w_PUBREC), .unset, .unset, .unset] [(.int p2)])) _
              refine XS.istore X277.here hx rfl (hb hby at_26) rfl (l' := #[.val (.int p1), .val (.int p2), .val (.int (4 : Int32)), .val (.ref w_PUBREC), .val (.int p2), .unset, .unset]) rfl ?_
              show Steps p.tables e below (T277.setTop (mkF m 28 #[.val (.int p1), .val (.int p2), .val (.int (4 : Int32)), .val (.ref w_PUBREC), .val (.int p2), .unset, .unset] [])) _
              refine XS.aloadN X277.here hx rfl (hb hby at_28) rfl rfl ?_
              show Steps p.tables e below (T277.setTop (mkF m 29 #[.val (.int p1), .val (.int p2), .val (.int (4 : Int32)), .val (.ref w_PUBREC), .val (.int p2), .unset, .unset] [(.ref w_PUBREC)])) _
              refine XS.iload X277.here hx rfl (hb hby at_29) rfl ?_
              show Steps p.tables e below (T277.setTop (mkF m 31 #[.val (.int p1), .val (.int p2), .val (.int (4 : Int32)), .val (.ref w_PUBREC), .val (.int p2), .unset, .unset] [(.int p2), (.ref w_PUBREC)])) _
              refine st279.trans ?_
              show Steps p.tables e below (T279.setTop (mkF m 34 #[.val (.int p1), .val (.int p2), .val (.int (4 : Int32)), .val (.ref w_PUBREC), .val (.int p2), .unset, .unset] [(.int (80 : Int32))])) _
              refine XS.istore X279.here hx rfl (hb hby at_34) rfl (l' := #[.val (.int p1), .val (.int p2), .val (.int (4 : Int32)), .val (.ref w_PUBREC), .val (.int p2), .val (.int (80 : Int32)), .unset]) rfl ?_
              show Steps p.tables e below (T279.setTop (mkF m 36 #[.val (.int p1), .val (.int p2), .val (.int (4 : Int32)), .val (.ref w_PUBREC), .val (.int p2), .val (.int (80 : Int32)), .unset] [])) _
              refine XS.iloadN X279.here hx rfl (hb hby at_36) rfl ?_
              show Steps p.tables e below (T279.setTop (mkF m 37 #[.val (.int p1), .val (.int p2), .val (.int (4 : Int32)), .val (.ref w_PUBREC), .val (.int p2), .val (.int (80 : Int32)), .unset] [(.int (4 : Int32))])) _
              refine XS.iconst X279.here hx rfl (hb hby at_37) ?_
              show Steps p.tables e below (T279.setTop (mkF m 38 #[.val (.int p1), .val (.int p2), .val (.int (4 : Int32)), .val (.ref w_PUBREC), .val (.int p2), .val (.int (80 : Int32)), .unset] [(.int (2 : Int32)), (.int (4 : Int32))])) _
              refine XS.icmpYes X279.here hx rfl (pc0 := 38) (pc' := 51) rfl (hb hby at_38) rfl (feq (by decide : ¬ ((4 : Int32) = (2 : Int32)))).2 (by decide) (by decide) ?_
              show Steps p.tables e below (T279.setTop (mkF m 51 #[.val (.int p1), .val (.int p2), .val (.int (4 : Int32)), .val (.ref w_PUBREC), .val (.int p2), .val (.int (80 : Int32)), .unset] [])) _
              refine XS.iloadN X279.here hx rfl (hb hby at_51) rfl ?_
              show Steps p.tables e below (T279.setTop (mkF m 52 #[.val (.int p1), .val (.int p2), .val (.int (4 : Int32)), .val (.ref w_PUBREC), .val (.int p2), .val (.int (80 : Int32)), .unset] [(.int (4 : Int32))])) _
              refine st281 _ ?_
              show Steps p.tables e below (T281.setTop (mkF m 55 #[.val (.int p1), .val (.int p2), .val (.int (4 : Int32)), .val (.ref w_PUBREC), .val (.int p2), .val (.int (80 : Int32)), .unset] [(.int (80 : Int32))])) _
              refine XS.istore X281.here hx rfl (hb hby at_55) rfl (l' := #[.val (.int p1), .val (.int p2), .val (.int (4 : Int32)), .val (.ref w_PUBREC), .val (.int p2), .val (.int (80 : Int32)), .val (.int (80 : Int32))]) rfl ?_
              show Steps p.tables e below (T281.setTop (mkF m 57 #[.val (.int p1), .val (.int p2), .val (.int (4 : Int32)), .val (.ref w_PUBREC), .val (.int p2), .val (.int (80 : Int32)), .val (.int (80 : Int32))] [])) _
              refine XS.iload X281.here hx rfl (hb hby at_57) rfl ?_
              show Steps p.tables e below (T281.setTop (mkF m 59 #[.val (.int p1), .val (.int p2), .val (.int (4 : Int32)), .val (.ref w_PUBREC), .val (.int p2), .val (.int (80 : Int32)), .val (.int (80 : Int32))] [(.int (80 : Int32))])) _
              refine XS.iload X281.here hx rfl (hb hby at_59) rfl ?_
              show Steps p.tables e below (T281.setTop (mkF m 61 #[.val (.int p1), .val (.int p2), .val (.int (4 : Int32)), .val (.ref w_PUBREC), .val (.int p2), .val (.int (80 : Int32)), .val (.int (80 : Int32))] [(.int (80 : Int32)), (.int (80 : Int32))])) _
              refine XS.icmpNo X281.here hx rfl (hb hby at_61) rfl (teq (by decide : (80 : Int32) = (80 : Int32))).2 ?_
              show Steps p.tables e below (T281.setTop (mkF m 64 #[.val (.int p1), .val (.int p2), .val (.int (4 : Int32)), .val (.ref w_PUBREC), .val (.int p2), .val (.int (80 : Int32)), .val (.int (80 : Int32))] [])) _
              refine XS.iload X281.here hx rfl (hb hby at_64) rfl ?_
              show Steps p.tables e below (T281.setTop (mkF m 66 #[.val (.int p1), .val (.int p2), .val (.int (4 : Int32)), .val (.ref w_PUBREC), .val (.int p2), .val (.int (80 : Int32)), .val (.int (80 : Int32))] [(.int (80 : Int32))])) _
              refine st283 _ ?_
              show Steps p.tables e below (T283.setTop (mkF m 69 #[.val (.int p1), .val (.int p2), .val (.int (4 : Int32)), .val (.ref w_PUBREC), .val (.int p2), .val (.int (80 : Int32)), .val (.int (80 : Int32))] [(.ref w_PUBREC)])) _
              refine XS.aloadN X283.here hx rfl (hb hby at_69) rfl rfl ?_
              show Steps p.tables e below (T283.setTop (mkF m 70 #[.val (.int p1), .val (.int p2), .val (.int (4 : Int32)), .val (.ref w_PUBREC), .val (.int p2), .val (.int (80 : Int32)), .val (.int (80 : Int32))] [(.ref w_PUBREC), (.ref w_PUBREC)])) _
              refine Jvm.RoadKit.acmp (g := (mkF m 70 #[.val (.int p1), .val (.int p2), .val (.int (4 : Int32)), .val (.ref w_PUBREC), .val (.int p2), .val (.int (80 : Int32)), .val (.int (80 : Int32))] [(.ref w_PUBREC), (.ref w_PUBREC)])) X283 hx rfl rfl rfl (pc0 := 70) (pc' := 73) (same := true) rfl (hb hby at_70) rfl (decide_eq_true rfl) (by decide) (by decide) ?_
              show Steps p.tables e below (T283.setTop (mkF m 73 #[.val (.int p1), .val (.int p2), .val (.int (4 : Int32)), .val (.ref w_PUBREC), .val (.int p2), .val (.int (80 : Int32)), .val (.int (80 : Int32))] [])) _
              refine XS.iconst X283.here hx rfl (hb hby at_73) ?_
              show Steps p.tables e below (T283.setTop (mkF m 74 #[.val (.int p1), .val (.int p2), .val (.int (4 : Int32)), .val (.ref w_PUBREC), .val (.int p2), .val (.int (80 : Int32)), .val (.int (80 : Int32))] [(.int (1 : Int32))])) _
              refine XS.goto X283.here hx rfl (pc0 := 74) (pc' := 78) rfl (hb hby at_74) (by decide) (by decide) ?_
              show Steps p.tables e below (T283.setTop (mkF m 78 #[.val (.int p1), .val (.int p2), .val (.int (4 : Int32)), .val (.ref w_PUBREC), .val (.int p2), .val (.int (80 : Int32)), .val (.int (80 : Int32))] [(.int (1 : Int32))])) _
              exact retN X283 hx (t := .boolean) Bd.returns (by simp) (hb hby at_78) hr
            · show own_Q0 Z p1 p2 w_CONNECT w_CONNACK w_PUBLISH w_PUBACK w_PUBREC w_PUBREL w_PUBCOMP w_SUBSCRIBE w_SUBACK w_UNSUBSCRIBE w_UNSUBACK w_PINGREQ w_PINGRESP w_DISCONNECT k_w__VALUES w__VALUES h0 n0 _ T283.heap _
              exact ⟨(by rw [own_f0, if_neg hc1, if_neg hc2, if_neg hc3, if_neg hc4, if_pos hc5]), N344⟩
          ·
            by_cases hc6 : ((p1 &&& (2147483647 : Int32)) - ((p1 &&& (2147483647 : Int32)) / (14 : Int32)) * (14 : Int32)) = (5 : Int32)
            ·
              have k345 : ∀ t, Steps p.tables e below (s₁.setTop (mkF m 7 #[.val (.int p1), .val (.int p2), .unset, .unset, .unset, .unset, .unset] [(.int (5 : Int32))])) t → Steps p.tables e below (s₁.setTop (entryFrame m #[(.int p1), (.int p2)] maxLocals)) t := by
                intro t kt
                refine k1 t ?_
                rw [hc6]
                exact kt
              obtain ⟨v346, _, ⟨T346, L346, k346, n346⟩, -, X346, ⟨Lc346, hQ346, l346, y346, z346⟩, st346⟩ := Jvm.LawKit.callS X0 hx (y := (⟨"com/example/castd/castd/mqtt/PacketTypeFirstBytePinLaw", "type", "(I)Lcom/example/castd/castd/mqtt/PacketType;"⟩ : MethodName)) hown (mvT hZ (hw _ (List.mem_of_getElem? (i := 1) rfl))) (mvT hZ (hw _ (List.mem_of_getElem? (i := 2) rfl))) (mvT hZ (hw _ (List.mem_of_getElem? (i := 3) rfl))) (mvT hZ (hw _ (List.mem_of_getElem? (i := 4) rfl))) (by decide) (backOf (W := 0) (own_rm1 l Z a0 hw [] (5 : Int32) w_CONNECT w_CONNACK w_PUBLISH w_PUBACK w_PUBREC w_PUBREL w_PUBCOMP w_SUBSCRIBE w_SUBACK w_UNSUBSCRIBE w_UNSUBACK w_PINGREQ w_PINGRESP w_DISCONNECT h0 n0 Z0 S_CONNECT S_CONNACK S_PUBLISH S_PUBACK S_PUBREC S_PUBREL S_PUBCOMP S_SUBSCRIBE S_SUBACK S_UNSUBSCRIBE S_UNSUBACK S_PINGREQ S_PINGRESP S_DISCONNECT) hZ (hw _ (List.mem_of_getElem? (i := 4) rfl)) (hw _ (List.mem_of_getElem? (i := 3) rfl)) (by decide) (by decide)) (g := (mkF m 9 #[.val (.int p1), .val (.int p2), .val (.int (5 : Int32)), .unset, .unset, .unset, .unset] [(.int (5 : Int32))])) rfl (by rw [hml]; rfl) (argsL := [(.int (5 : Int32))]) (rest := []) (lenOf own_pd119 rfl) rfl (by show 2 * 0 + _ ≤ _; exact Nat.le_of_eq rfl) (hb hby at_9) (fun _ _ => ⟨rfl, e0, (by decide : 0 + 0 ≤ _), (by decide : 0 + 0 ≤ _)⟩)
              dsimp only [Pt.U, Pt.locs, Pt.cells, Pt.slots] at X346 l346 y346 z346 st346 hQ346
              subst l346 y346 z346
              obtain ⟨hv346, N346q, e346⟩ := hQ346
              have N347 := Fr.app N0 N346q
              rw [show (own_f1 (5 : Int32) w_CONNECT w_CONNACK w_PUBLISH w_PUBACK w_PUBREC w_PUBREL w_PUBCOMP w_SUBSCRIBE w_SUBACK w_UNSUBSCRIBE w_UNSUBACK w_PINGREQ w_PINGRESP w_DISCONNECT) = w_PUBREL from by first | rfl | decide | simp [own_f1]] at hv346
              subst hv346
              obtain ⟨cq348, kq348, q348a, q348b, q348c⟩ := isOf hZ e346 E_w_PUBREL
              obtain ⟨v348, _, ⟨T348, L348, k348, n348⟩, -, X348, ⟨Lc348, hQ348, l348, y348, z348⟩, st348⟩ := X346.virtualBack hx (y := (⟨"com/example/castd/castd/mqtt/PacketType", "firstByte", "(I)I"⟩ : MethodName)) (z := (⟨"com/example/castd/castd/mqtt/PacketType", "firstByte", "(I)I"⟩ : MethodName)) hown (mvT hZ (hw _ (List.mem_of_getElem? (i := 8) rfl))) (mvT hZ (hw _ (List.mem_of_getElem? (i := 9) rfl))) (notFace_of_selects (args := #[]) (mvT hZ (hw _ (List.mem_of_getElem? (i := 11) rfl)))) (mvT hZ (hw _ (List.mem_of_getElem? (i := 11) rfl))) (mvT hZ (hw _ (List.mem_of_getElem? (i := 10) rfl))) (by decide) (backOf (W := 0) (own_rm2 l Z a0 hw [] w_PUBREL p2 (2 : Int32) (6 : Int32) h0 n0 Z0 F_requiredFlags_w_PUBREL F_code_w_PUBREL) hZ (hw _ (List.mem_of_getElem? (i := 12) rfl)) (hw _ (List.mem_of_getElem? (i := 6) rfl)) (by decide) (by decide)) q348a q348c (g := (mkF m 31 #[.val (.int p1), .val (.int p2), .val (.int (5 : Int32)), .val (.ref w_PUBREL), .val (.int p2), .unset, .unset] [(.int p2), (.ref w_PUBREL)])) rfl (by rw [hml]; rfl) (Steps.refl _) (argsL := [(.int p2)]) (rest := []) (lenOf own_pd120 rfl) rfl (by show 2 * 0 + _ ≤ _; exact Nat.le_of_eq rfl) (hb hby at_31) (fun _ _ => ⟨rfl, e346, (by decide : 0 + 0 ≤ _), (by decide : 0 + 0 ≤ _)⟩)
              dsimp only [Pt.U, Pt.locs, Pt.cells, Pt.slots] at X348 l348 y348 z348 st348 hQ348
              subst l348 y348 z348
              obtain ⟨hv348, N348q, e348⟩ := hQ348
              have N349 := Fr.app N347 N348q
              rw [show (own_f2 p2 (2 : Int32) (6 : Int32)) = (98 : Int32) from by first | rfl | decide | simp [own_f2]] at hv348
              subst hv348
              obtain ⟨v350, _, ⟨T350, L350, k350, n350⟩, -, X350, ⟨Lc350, hQ350, l350, y350, z350⟩, st350⟩ := Jvm.LawKit.callS X348 hx (y := (⟨"com/example/castd/castd/mqtt/PacketTypeFirstBytePinLaw", "fixed", "(I)I"⟩ : MethodName)) hown (mvT hZ (hw _ (List.mem_of_getElem? (i := 17) rfl))) (mvT hZ (hw _ (List.mem_of_getElem? (i := 18) rfl))) (mvT hZ (hw _ (List.mem_of_getElem? (i := 3) rfl))) (mvT hZ (hw _ (List.mem_of_getElem? (i := 19) rfl))) (by decide) (backOf (W := 0) (own_rm3 l Z a0 hw [] (5 : Int32) h0 n0 Z0) hZ (hw _ (List.mem_of_getElem? (i := 19) rfl)) (hw _ (List.mem_of_getElem? (i := 3) rfl)) (by decide) (by decide)) (g := (mkF m 52 #[.val (.int p1), .val (.int p2), .val (.int (5 : Int32)), .val (.ref w_PUBREL), .val (.int p2), .val (.int (98 : Int32)), .unset] [(.int (5 : Int32))])) rfl (by rw [hml]; rfl) (argsL := [(.int (5 : Int32))]) (rest := []) (lenOf own_pd120 rfl) rfl (by show 2 * 0 + _ ≤ _; exact Nat.le_of_eq rfl) (hb hby at_52) (fun _ _ => ⟨rfl, e348, (by decide : 0 + 0 ≤ _), (by decide : 0 + 0 ≤ _)⟩)
              dsimp only [Pt.U, Pt.locs, Pt.cells, Pt.slots] at X350 l350 y350 z350 st350 hQ350
              subst l350 y350 z350
              obtain ⟨hv350, N350q, e350⟩ := hQ350
              have N351 := Fr.app N349 N350q
              rw [show (own_f3 (5 : Int32)) = (98 : Int32) from by first | rfl | decide | simp [own_f3]] at hv350
              subst hv350
              obtain ⟨v352, _, ⟨T352, L352, k352, n352⟩, -, X352, ⟨Lc352, hQ352, l352, y352, z352⟩, st352⟩ := Jvm.LawKit.callS X350 hx (y := (⟨"com/example/castd/castd/mqtt/PacketType", "fromFirstByte", "(I)Lcom/example/castd/castd/mqtt/PacketType;"⟩ : MethodName)) hown (mvT hZ (hw _ (List.mem_of_getElem? (i := 20) rfl))) (mvT hZ (hw _ (List.mem_of_getElem? (i := 21) rfl))) (mvT hZ (hw _ (List.mem_of_getElem? (i := 6) rfl))) (mvT hZ (hw _ (List.mem_of_getElem? (i := 22) rfl))) (by decide) (backOf (W := 0) (own_v98_rm4 l Z a0 hw [] w_CONNECT w_DISCONNECT k_w__VALUES w_CONNACK w_PUBLISH w_PUBACK w_PUBREC w_PUBREL w_PUBCOMP w_SUBSCRIBE w_SUBACK w_UNSUBSCRIBE w_UNSUBACK w_PINGREQ w_PINGRESP w__VALUES h0 n0 Z0 S_CONNECT F_code_w_CONNECT S_DISCONNECT F_code_w_DISCONNECT V_w__VALUES S__VALUES E_w__VALUES F_requiredFlags_w_PUBREL) hZ (hw _ (List.mem_of_getElem? (i := 22) rfl)) (hw _ (List.mem_of_getElem? (i := 6) rfl)) (by decide) (by decide)) (g := (mkF m 66 #[.val (.int p1), .val (.int p2), .val (.int (5 : Int32)), .val (.ref w_PUBREL), .val (.int p2), .val (.int (98 : Int32)), .val (.int (98 : Int32))] [(.int (98 : Int32))])) rfl (by rw [hml]; rfl) (argsL := [(.int (98 : Int32))]) (rest := []) (lenOf own_pd119 rfl) rfl (by show 2 * 0 + _ ≤ _; exact Nat.le_of_eq rfl) (hb hby at_66) (fun _ _ => ⟨rfl, e350, (by decide : 0 + 1 ≤ _), (by decide : 0 + 14 ≤ _)⟩)
              dsimp only [Pt.U, Pt.locs, Pt.cells, Pt.slots] at X352 l352 y352 z352 st352 hQ352
              subst l352 y352 z352
              obtain ⟨hv352, N352q, K352⟩ := hQ352
              have f353 := own_staKeep S_CONNECT K352
              have f354 := own_staKeep S_CONNACK K352
              have f355 := own_staKeep S_PUBLISH K352
              have f356 := own_staKeep S_PUBACK K352
              have f357 := own_staKeep S_PUBREC K352
              have f358 := own_staKeep S_PUBREL K352
              have f359 := own_staKeep S_PUBCOMP K352
              have f360 := own_staKeep S_SUBSCRIBE K352
              have f361 := own_staKeep S_SUBACK K352
              have f362 := own_staKeep S_UNSUBSCRIBE K352
              have f363 := own_staKeep S_UNSUBACK K352
              have f364 := own_staKeep S_PINGREQ K352
              have f365 := own_staKeep S_PINGRESP K352
              have f366 := own_staKeep S_DISCONNECT K352
              have f367 := F_requiredFlags_w_CONNECT.keep K352 nin0
              have f368 := F_code_w_CONNECT.keep K352 nin0
              have f369 := E_w_CONNECT.keep K352
              have f370 := F_code_w_DISCONNECT.keep K352 nin0
              have f371 := V_w__VALUES.keep K352 nin0
              have f372 := own_staKeep S__VALUES K352
              have f373 := E_w__VALUES.keep K352
              have f374 := F_requiredFlags_w_CONNACK.keep K352 nin0
              have f375 := F_code_w_CONNACK.keep K352 nin0
              have f376 := E_w_CONNACK.keep K352
              have f377 := F_requiredFlags_w_PUBLISH.keep K352 nin0
              have f378 := F_code_w_PUBLISH.keep K352 nin0
              have f379 := E_w_PUBLISH.keep K352
              have f380 := F_requiredFlags_w_PUBACK.keep K352 nin0
              have f381 := F_code_w_PUBACK.keep K352 nin0
              have f382 := E_w_PUBACK.keep K352
              have f383 := F_requiredFlags_w_PUBREC.keep K352 nin0
              have f384 := F_code_w_PUBREC.keep K352 nin0
              have f385 := E_w_PUBREC.keep K352
              have f386 := F_requiredFlags_w_PUBREL.keep K352 nin0
              have f387 := F_code_w_PUBREL.keep K352 nin0
              have f388 := E_w_PUBREL.keep K352
              have f389 := F_requiredFlags_w_PUBCOMP.keep K352 nin0
              have f390 := F_code_w_PUBCOMP.keep K352 nin0
              have f391 := E_w_PUBCOMP.keep K352
              have f392 := F_requiredFlags_w_SUBSCRIBE.keep K352 nin0
              have f393 := F_code_w_SUBSCRIBE.keep K352 nin0
              have f394 := E_w_SUBSCRIBE.keep K352
              have f395 := F_requiredFlags_w_SUBACK.keep K352 nin0
              have f396 := F_code_w_SUBACK.keep K352 nin0
              have f397 := E_w_SUBACK.keep K352
              have f398 := F_requiredFlags_w_UNSUBSCRIBE.keep K352 nin0
              have f399 := F_code_w_UNSUBSCRIBE.keep K352 nin0
              have f400 := E_w_UNSUBSCRIBE.keep K352
              have f401 := F_requiredFlags_w_UNSUBACK.keep K352 nin0
              have f402 := F_code_w_UNSUBACK.keep K352 nin0
              have f403 := E_w_UNSUBACK.keep K352
              have f404 := F_requiredFlags_w_PINGREQ.keep K352 nin0
              have f405 := F_code_w_PINGREQ.keep K352 nin0
              have f406 := E_w_PINGREQ.keep K352
              have f407 := F_requiredFlags_w_PINGRESP.keep K352 nin0
              have f408 := F_code_w_PINGRESP.keep K352 nin0
              have f409 := E_w_PINGRESP.keep K352
              have f410 := F_requiredFlags_w_DISCONNECT.keep K352 nin0
              have f411 := E_w_DISCONNECT.keep K352
              have Z412 := Nat.le_trans Z0 K352.1
              have N413 := Fr.app N351 N352q
              rw [show (own_v98_f4 w_PUBREL) = w_PUBREL from by first | rfl | decide | simp [own_v98_f4]] at hv352
              subst hv352
              obtain ⟨fs, hr, hrun, hended, hW, hsame⟩ := X352.leave (v := some (.int (1 : Int32))) (fun h => by rw [Bd.returns] at h; cases h)
              refine ⟨_, _, k345 _ ?_, hrun, hended, _, _, rfl, ?_, ⟨_, rfl⟩, hW, hsame.mono (by decide) (by decide)⟩
              · show Steps p.tables e below (s₁.setTop (mkF m 7 #[.val (.int p1), .val (.int p2), .unset, .unset, .unset, .unset, .unset] [(.int (5 : Int32))])) _
                refine XS.istoreN X0.here hx rfl (hb hby at_7) rfl (l' := #[.val (.int p1), .val (.int p2), .val (.int (5 : Int32)), .unset, .unset, .unset, .unset]) rfl ?_
                show Steps p.tables e below (s₁.setTop (mkF m 8 #[.val (.int p1), .val (.int p2), .val (.int (5 : Int32)), .unset, .unset, .unset, .unset] [])) _
                refine XS.iloadN X0.here hx rfl (hb hby at_8) rfl ?_
                show Steps p.tables e below (s₁.setTop (mkF m 9 #[.val (.int p1), .val (.int p2), .val (.int (5 : Int32)), .unset, .unset, .unset, .unset] [(.int (5 : Int32))])) _
                refine st346 _ ?_
                show Steps p.tables e below (T346.setTop (mkF m 12 #[.val (.int p1), .val (.int p2), .val (.int (5 : Int32)), .unset, .unset, .unset, .unset] [(.ref w_PUBREL)])) _
                refine XS.astoreN X346.here hx rfl (hb hby at_12) rfl rfl (l' := #[.val (.int p1), .val (.int p2), .val (.int (5 : Int32)), .val (.ref w_PUBREL), .unset, .unset, .unset]) rfl ?_
                show Steps p.tables e below (T346.setTop (mkF m 13 #[.val (.int p1), .val (.int p2), .val (.int (5 : Int32)), .val (.ref w_PUBREL), .unset, .unset, .unset] [])) _
                refine XS.iloadN X346.here hx rfl (hb hby at_13) rfl ?_
                show Steps p.tables e below (T346.setTop (mkF m 14 #[.val (.int p1), .val (.int p2), .val (.int (5 : Int32)), .val (.ref w_PUBREL), .unset, .unset, .unset] [(.int (5 : Int32))])) _
                refine XS.iconst X346.here hx rfl (hb hby at_14) ?_
                show Steps p.tables e below (T346.setTop (mkF m 15 #[.val (.int p1), .val (.int p2), .val (.int (5 : Int32)), .val (.ref w_PUBREL), .unset, .unset, .unset] [(.int (2 : Int32)), (.int (5 : Int32))])) _
                refine XS.icmpYes X346.here hx rfl (pc0 := 15) (pc' := 25) rfl (hb hby at_15) rfl (feq (by decide : ¬ ((5 : Int32) = (2 : Int32)))).2 (by decide) (by decide) ?_
                show Steps p.tables e below (T346.setTop (mkF m 25 #[.val (.int p1), .val (.int p2), .val (.int (5 : Int32)), .val (.ref w_PUBREL), .unset, .unset, .unset] [])) _
                refine XS.iloadN X346.here hx rfl (hb hby at_25) rfl ?_
                show Steps p.tables e below (T346.setTop (mkF m 26 #[.val (.int p1), .val (.int p2), .val (.int (5 : Int32)), .val (.ref w_PUBREL), .unset, .unset, .unset] [(.int p2)])) _
                refine XS.istore X346.here hx rfl (hb hby at_26) rfl (l' := #[.val (.int p1), .val (.int p2), .val (.int (5 : Int32)), .val (.ref w_PUBREL), .val (.int p2), .unset, .unset]) rfl ?_
                show Steps p.tables e below (T346.setTop (mkF m 28 #[.val (.int p1), .val (.int p2), .val (.int (5 : Int32)), .val (.ref w_PUBREL), .val (.int p2), .unset, .unset] [])) _
                refine XS.aloadN X346.here hx rfl (hb hby at_28) rfl rfl ?_
                show Steps p.tables e below (T346.setTop (mkF m 29 #[.val (.int p1), .val (.int p2), .val (.int (5 : Int32)), .val (.ref w_PUBREL), .val (.int p2), .unset, .unset] [(.ref w_PUBREL)])) _
                refine XS.iload X346.here hx rfl (hb hby at_29) rfl ?_
                show Steps p.tables e below (T346.setTop (mkF m 31 #[.val (.int p1), .val (.int p2), .val (.int (5 : Int32)), .val (.ref w_PUBREL), .val (.int p2), .unset, .unset] [(.int p2), (.ref w_PUBREL)])) _
                refine st348.trans ?_
                show Steps p.tables e below (T348.setTop (mkF m 34 #[.val (.int p1), .val (.int p2), .val (.int (5 : Int32)), .val (.ref w_PUBREL), .val (.int p2), .unset, .unset] [(.int (98 : Int32))])) _
                refine XS.istore X348.here hx rfl (hb hby at_34) rfl (l' := #[.val (.int p1), .val (.int p2), .val (.int (5 : Int32)), .val (.ref w_PUBREL), .val (.int p2), .val (.int (98 : Int32)), .unset]) rfl ?_
                show Steps p.tables e below (T348.setTop (mkF m 36 #[.val (.int p1), .val (.int p2), .val (.int (5 : Int32)), .val (.ref w_PUBREL), .val (.int p2), .val (.int (98 : Int32)), .unset] [])) _
                refine XS.iloadN X348.here hx rfl (hb hby at_36) rfl ?_
                show Steps p.tables e below (T348.setTop (mkF m 37 #[.val (.int p1), .val (.int p2), .val (.int (5 : Int32)), .val (.ref w_PUBREL), .val (.int p2), .val (.int (98 : Int32)), .unset] [(.int (5 : Int32))])) _
                refine XS.iconst X348.here hx rfl (hb hby at_37) ?_
                show Steps p.tables e below (T348.setTop (mkF m 38 #[.val (.int p1), .val (.int p2), .val (.int (5 : Int32)), .val (.ref w_PUBREL), .val (.int p2), .val (.int (98 : Int32)), .unset] [(.int (2 : Int32)), (.int (5 : Int32))])) _
                refine XS.icmpYes X348.here hx rfl (pc0 := 38) (pc' := 51) rfl (hb hby at_38) rfl (feq (by decide : ¬ ((5 : Int32) = (2 : Int32)))).2 (by decide) (by decide) ?_
                show Steps p.tables e below (T348.setTop (mkF m 51 #[.val (.int p1), .val (.int p2), .val (.int (5 : Int32)), .val (.ref w_PUBREL), .val (.int p2), .val (.int (98 : Int32)), .unset] [])) _
                refine XS.iloadN X348.here hx rfl (hb hby at_51) rfl ?_
                show Steps p.tables e below (T348.setTop (mkF m 52 #[.val (.int p1), .val (.int p2), .val (.int (5 : Int32)), .val (.ref w_PUBREL), .val (.int p2), .val (.int (98 : Int32)), .unset] [(.int (5 : Int32))])) _
                refine st350 _ ?_
                show Steps p.tables e below (T350.setTop (mkF m 55 #[.val (.int p1), .val (.int p2), .val (.int (5 : Int32)), .val (.ref w_PUBREL), .val (.int p2), .val (.int (98 : Int32)), .unset] [(.int (98 : Int32))])) _
                refine XS.istore X350.here hx rfl (hb hby at_55) rfl (l' := #[.val (.int p1), .val (.int p2), .val (.int (5 : Int32)), .val (.ref w_PUBREL), .val (.int p2), .val (.int (98 : Int32)), .val (.int (98 : Int32))]) rfl ?_
                show Steps p.tables e below (T350.setTop (mkF m 57 #[.val (.int p1), .val (.int p2), .val (.int (5 : Int32)), .val (.ref w_PUBREL), .val (.int p2), .val (.int (98 : Int32)), .val (.int (98 : Int32))] [])) _
                refine XS.iload X350.here hx rfl (hb hby at_57) rfl ?_
                show Steps p.tables e below (T350.setTop (mkF m 59 #[.val (.int p1), .val (.int p2), .val (.int (5 : Int32)), .val (.ref w_PUBREL), .val (.int p2), .val (.int (98 : Int32)), .val (.int (98 : Int32))] [(.int (98 : Int32))])) _
                refine XS.iload X350.here hx rfl (hb hby at_59) rfl ?_
                show Steps p.tables e below (T350.setTop (mkF m 61 #[.val (.int p1), .val (.int p2), .val (.int (5 : Int32)), .val (.ref w_PUBREL), .val (.int p2), .val (.int (98 : Int32)), .val (.int (98 : Int32))] [(.int (98 : Int32)), (.int (98 : Int32))])) _
                refine XS.icmpNo X350.here hx rfl (hb hby at_61) rfl (teq (by decide : (98 : Int32) = (98 : Int32))).2 ?_
                show Steps p.tables e below (T350.setTop (mkF m 64 #[.val (.int p1), .val (.int p2), .val (.int (5 : Int32)), .val (.ref w_PUBREL), .val (.int p2), .val (.int (98 : Int32)), .val (.int (98 : Int32))] [])) _
                refine XS.iload X350.here hx rfl (hb hby at_64) rfl ?_
                show Steps p.tables e below (T350.setTop (mkF m 66 #[.val (.int p1), .val (.int p2), .val (.int (5 : Int32)), .val (.ref w_PUBREL), .val (.int p2), .val (.int (98 : Int32)), .val (.int (98 : Int32))] [(.int (98 : Int32))])) _
                refine st352 _ ?_
                show Steps p.tables e below (T352.setTop (mkF m 69 #[.val (.int p1), .val (.int p2), .val (.int (5 : Int32)), .val (.ref w_PUBREL), .val (.int p2), .val (.int (98 : Int32)), .val (.int (98 : Int32))] [(.ref w_PUBREL)])) _
                refine XS.aloadN X352.here hx rfl (hb hby at_69) rfl rfl ?_
                show Steps p.tables e below (T352.setTop (mkF m 70 #[.val (.int p1), .val (.int p2), .val (.int (5 : Int32)), .val (.ref w_PUBREL), .val (.int p2), .val (.int (98 : Int32)), .val (.int (98 : Int32))] [(.ref w_PUBREL), (.ref w_PUBREL)])) _
                refine Jvm.RoadKit.acmp (g := (mkF m 70 #[.val (.int p1), .val (.int p2), .val (.int (5 : Int32)), .val (.ref w_PUBREL), .val (.int p2), .val (.int (98 : Int32)), .val (.int (98 : Int32))] [(.ref w_PUBREL), (.ref w_PUBREL)])) X352 hx rfl rfl rfl (pc0 := 70) (pc' := 73) (same := true) rfl (hb hby at_70) rfl (decide_eq_true rfl) (by decide) (by decide) ?_
                show Steps p.tables e below (T352.setTop (mkF m 73 #[.val (.int p1), .val (.int p2), .val (.int (5 : Int32)), .val (.ref w_PUBREL), .val (.int p2), .val (.int (98 : Int32)), .val (.int (98 : Int32))] [])) _
                refine XS.iconst X352.here hx rfl (hb hby at_73) ?_
                show Steps p.tables e below (T352.setTop (mkF m 74 #[.val (.int p1), .val (.int p2), .val (.int (5 : Int32)), .val (.ref w_PUBREL), .val (.int p2), .val (.int (98 : Int32)), .val (.int (98 : Int32))] [(.int (1 : Int32))])) _
                refine XS.goto X352.here hx rfl (pc0 := 74) (pc' := 78) rfl (hb hby at_74) (by decide) (by decide) ?_
                show Steps p.tables e below (T352.setTop (mkF m 78 #[.val (.int p1), .val (.int p2), .val (.int (5 : Int32)), .val (.ref w_PUBREL), .val (.int p2), .val (.int (98 : Int32)), .val (.int (98 : Int32))] [(.int (1 : Int32))])) _
                exact retN X352 hx (t := .boolean) Bd.returns (by simp) (hb hby at_78) hr
              · show own_Q0 Z p1 p2 w_CONNECT w_CONNACK w_PUBLISH w_PUBACK w_PUBREC w_PUBREL w_PUBCOMP w_SUBSCRIBE w_SUBACK w_UNSUBSCRIBE w_UNSUBACK w_PINGREQ w_PINGRESP w_DISCONNECT k_w__VALUES w__VALUES h0 n0 _ T352.heap _
                exact ⟨(by rw [own_f0, if_neg hc1, if_neg hc2, if_neg hc3, if_neg hc4, if_neg hc5, if_pos hc6]), N413⟩
            ·
              by_cases hc7 : ((p1 &&& (2147483647 : Int32)) - ((p1 &&& (2147483647 : Int32)) / (14 : Int32)) * (14 : Int32)) = (6 : Int32)
              ·
                have k414 : ∀ t, Steps p.tables e below (s₁.setTop (mkF m 7 #[.val (.int p1), .val (.int p2), .unset, .unset, .unset, .unset, .unset] [(.int (6 : Int32))])) t → Steps p.tables e below (s₁.setTop (entryFrame m #[(.int p1), (.int p2)] maxLocals)) t := by
                  intro t kt
                  refine k1 t ?_
                  rw [hc7]
                  exact kt
                obtain ⟨v415, _, ⟨T415, L415, k415, n415⟩, -, X415, ⟨Lc415, hQ415, l415, y415, z415⟩, st415⟩ := Jvm.LawKit.callS X0 hx (y := (⟨"com/example/castd/castd/mqtt/PacketTypeFirstBytePinLaw", "type", "(I)Lcom/example/castd/castd/mqtt/PacketType;"⟩ : MethodName)) hown (mvT hZ (hw _ (List.mem_of_getElem? (i := 1) rfl))) (mvT hZ (hw _ (List.mem_of_getElem? (i := 2) rfl))) (mvT hZ (hw _ (List.mem_of_getElem? (i := 3) rfl))) (mvT hZ (hw _ (List.mem_of_getElem? (i := 4) rfl))) (by decide) (backOf (W := 0) (own_rm1 l Z a0 hw [] (6 : Int32) w_CONNECT w_CONNACK w_PUBLISH w_PUBACK w_PUBREC w_PUBREL w_PUBCOMP w_SUBSCRIBE w_SUBACK w_UNSUBSCRIBE w_UNSUBACK w_PINGREQ w_PINGRESP w_DISCONNECT h0 n0 Z0 S_CONNECT S_CONNACK S_PUBLISH S_PUBACK S_PUBREC S_PUBREL S_PUBCOMP S_SUBSCRIBE S_SUBACK S_UNSUBSCRIBE S_UNSUBACK S_PINGREQ S_PINGRESP S_DISCONNECT) hZ (hw _ (List.mem_of_getElem? (i := 4) rfl)) (hw _ (List.mem_of_getElem? (i := 3) rfl)) (by decide) (by decide)) (g := (mkF m 9 #[.val (.int p1), .val (.int p2), .val (.int (6 : Int32)), .unset, .unset, .unset, .unset] [(.int (6 : Int32))])) rfl (by rw [hml]; rfl) (argsL := [(.int (6 : Int32))]) (rest := []) (lenOf own_pd119 rfl) rfl (by show 2 * 0 + _ ≤ _; exact Nat.le_of_eq rfl) (hb hby at_9) (fun _ _ => ⟨rfl, e0, (by decide : 0 + 0 ≤ _), (by decide : 0 + 0 ≤ _)⟩)
                dsimp only [Pt.U, Pt.locs, Pt.cells, Pt.slots] at X415 l415 y415 z415 st415 hQ415
                subst l415 y415 z415
                obtain ⟨hv415, N415q, e415⟩ := hQ415
                have N416 := Fr.app N0 N415q
                rw [show (own_f1 (6 : Int32) w_CONNECT w_CONNACK w_PUBLISH w_PUBACK w_PUBREC w_PUBREL w_PUBCOMP w_SUBSCRIBE w_SUBACK w_UNSUBSCRIBE w_UNSUBACK w_PINGREQ w_PINGRESP w_DISCONNECT) = w_PUBCOMP from by first | rfl | decide | simp [own_f1]] at hv415
                subst hv415
                obtain ⟨cq417, kq417, q417a, q417b, q417c⟩ := isOf hZ e415 E_w_PUBCOMP
                obtain ⟨v417, _, ⟨T417, L417, k417, n417⟩, -, X417, ⟨Lc417, hQ417, l417, y417, z417⟩, st417⟩ := X415.virtualBack hx (y := (⟨"com/example/castd/castd/mqtt/PacketType", "firstByte", "(I)I"⟩ : MethodName)) (z := (⟨"com/example/castd/castd/mqtt/PacketType", "firstByte", "(I)I"⟩ : MethodName)) hown (mvT hZ (hw _ (List.mem_of_getElem? (i := 8) rfl))) (mvT hZ (hw _ (List.mem_of_getElem? (i := 9) rfl))) (notFace_of_selects (args := #[]) (mvT hZ (hw _ (List.mem_of_getElem? (i := 11) rfl)))) (mvT hZ (hw _ (List.mem_of_getElem? (i := 11) rfl))) (mvT hZ (hw _ (List.mem_of_getElem? (i := 10) rfl))) (by decide) (backOf (W := 0) (own_rm2 l Z a0 hw [] w_PUBCOMP p2 (0 : Int32) (7 : Int32) h0 n0 Z0 F_requiredFlags_w_PUBCOMP F_code_w_PUBCOMP) hZ (hw _ (List.mem_of_getElem? (i := 12) rfl)) (hw _ (List.mem_of_getElem? (i := 6) rfl)) (by decide) (by decide)) q417a q417c (g := (mkF m 31 #[.val (.int p1), .val (.int p2), .val (.int (6 : Int32)), .val (.ref w_PUBCOMP), .val (.int p2), .unset, .unset] [(.int p2), (.ref w_PUBCOMP)])) rfl (by rw [hml]; rfl) (Steps.refl _) (argsL := [(.int p2)]) (rest := []) (lenOf own_pd120 rfl) rfl (by show 2 * 0 + _ ≤ _; exact Nat.le_of_eq rfl) (hb hby at_31) (fun _ _ => ⟨rfl, e415, (by decide : 0 + 0 ≤ _), (by decide : 0 + 0 ≤ _)⟩)
                dsimp only [Pt.U, Pt.locs, Pt.cells, Pt.slots] at X417 l417 y417 z417 st417 hQ417
                subst l417 y417 z417
                obtain ⟨hv417, N417q, e417⟩ := hQ417
                have N418 := Fr.app N416 N417q
                rw [show (own_f2 p2 (0 : Int32) (7 : Int32)) = (112 : Int32) from by first | rfl | decide | simp [own_f2]] at hv417
                subst hv417
                obtain ⟨v419, _, ⟨T419, L419, k419, n419⟩, -, X419, ⟨Lc419, hQ419, l419, y419, z419⟩, st419⟩ := Jvm.LawKit.callS X417 hx (y := (⟨"com/example/castd/castd/mqtt/PacketTypeFirstBytePinLaw", "fixed", "(I)I"⟩ : MethodName)) hown (mvT hZ (hw _ (List.mem_of_getElem? (i := 17) rfl))) (mvT hZ (hw _ (List.mem_of_getElem? (i := 18) rfl))) (mvT hZ (hw _ (List.mem_of_getElem? (i := 3) rfl))) (mvT hZ (hw _ (List.mem_of_getElem? (i := 19) rfl))) (by decide) (backOf (W := 0) (own_rm3 l Z a0 hw [] (6 : Int32) h0 n0 Z0) hZ (hw _ (List.mem_of_getElem? (i := 19) rfl)) (hw _ (List.mem_of_getElem? (i := 3) rfl)) (by decide) (by decide)) (g := (mkF m 52 #[.val (.int p1), .val (.int p2), .val (.int (6 : Int32)), .val (.ref w_PUBCOMP), .val (.int p2), .val (.int (112 : Int32)), .unset] [(.int (6 : Int32))])) rfl (by rw [hml]; rfl) (argsL := [(.int (6 : Int32))]) (rest := []) (lenOf own_pd120 rfl) rfl (by show 2 * 0 + _ ≤ _; exact Nat.le_of_eq rfl) (hb hby at_52) (fun _ _ => ⟨rfl, e417, (by decide : 0 + 0 ≤ _), (by decide : 0 + 0 ≤ _)⟩)
                dsimp only [Pt.U, Pt.locs, Pt.cells, Pt.slots] at X419 l419 y419 z419 st419 hQ419
                subst l419 y419 z419
                obtain ⟨hv419, N419q, e419⟩ := hQ419
                have N420 := Fr.app N418 N419q
                rw [show (own_f3 (6 : Int32)) = (112 : Int32) from by first | rfl | decide | simp [own_f3]] at hv419
                subst hv419
                obtain ⟨v421, _, ⟨T421, L421, k421, n421⟩, -, X421, ⟨Lc421, hQ421, l421, y421, z421⟩, st421⟩ := Jvm.LawKit.callS X419 hx (y := (⟨"com/example/castd/castd/mqtt/PacketType", "fromFirstByte", "(I)Lcom/example/castd/castd/mqtt/PacketType;"⟩ : MethodName)) hown (mvT hZ (hw _ (List.mem_of_getElem? (i := 20) rfl))) (mvT hZ (hw _ (List.mem_of_getElem? (i := 21) rfl))) (mvT hZ (hw _ (List.mem_of_getElem? (i := 6) rfl))) (mvT hZ (hw _ (List.mem_of_getElem? (i := 22) rfl))) (by decide) (backOf (W := 0) (own_v112_rm4 l Z a0 hw [] w_CONNECT w_DISCONNECT k_w__VALUES w_CONNACK w_PUBLISH w_PUBACK w_PUBREC w_PUBREL w_PUBCOMP w_SUBSCRIBE w_SUBACK w_UNSUBSCRIBE w_UNSUBACK w_PINGREQ w_PINGRESP w__VALUES h0 n0 Z0 S_CONNECT F_code_w_CONNECT S_DISCONNECT F_code_w_DISCONNECT V_w__VALUES S__VALUES E_w__VALUES F_requiredFlags_w_PUBCOMP) hZ (hw _ (List.mem_of_getElem? (i := 22) rfl)) (hw _ (List.mem_of_getElem? (i := 6) rfl)) (by decide) (by decide)) (g := (mkF m 66 #[.val (.int p1), .val (.int p2), .val (.int (6 : Int32)), .val (.ref w_PUBCOMP), .val (.int p2), .val (.int (112 : Int32)), .val (.int (112 : Int32))] [(.int (112 : Int32))])) rfl (by rw [hml]; rfl) (argsL := [(.int (112 : Int32))]) (rest := []) (lenOf own_pd119 rfl) rfl (by show 2 * 0 + _ ≤ _; exact Nat.le_of_eq rfl) (hb hby at_66) (fun _ _ => ⟨rfl, e419, (by decide : 0 + 1 ≤ _), (by decide : 0 + 14 ≤ _)⟩)
                dsimp only [Pt.U, Pt.locs, Pt.cells, Pt.slots] at X421 l421 y421 z421 st421 hQ421
                subst l421 y421 z421
                obtain ⟨hv421, N421q, K421⟩ := hQ421
                have f422 := own_staKeep S_CONNECT K421
                have f423 := own_staKeep S_CONNACK K421
                have f424 := own_staKeep S_PUBLISH K421
                have f425 := own_staKeep S_PUBACK K421
                have f426 := own_staKeep S_PUBREC K421
                have f427 := own_staKeep S_PUBREL K421
                have f428 := own_staKeep S_PUBCOMP K421
                have f429 := own_staKeep S_SUBSCRIBE K421
                have f430 := own_staKeep S_SUBACK K421
                have f431 := own_staKeep S_UNSUBSCRIBE K421
                have f432 := own_staKeep S_UNSUBACK K421
                have f433 := own_staKeep S_PINGREQ K421
                have f434 := own_staKeep S_PINGRESP K421
                have f435 := own_staKeep S_DISCONNECT K421
                have f436 := F_requiredFlags_w_CONNECT.keep K421 nin0
                have f437 := F_code_w_CONNECT.keep K421 nin0
                have f438 := E_w_CONNECT.keep K421
                have f439 := F_code_w_DISCONNECT.keep K421 nin0
                have f440 := V_w__VALUES.keep K421 nin0
                have f441 := own_staKeep S__VALUES K421
                have f442 := E_w__VALUES.keep K421
                have f443 := F_requiredFlags_w_CONNACK.keep K421 nin0
                have f444 := F_code_w_CONNACK.keep K421 nin0
                have f445 := E_w_CONNACK.keep K421
                have f446 := F_requiredFlags_w_PUBLISH.keep K421 nin0
                have f447 := F_code_w_PUBLISH.keep K421 nin0
                have f448 := E_w_PUBLISH.keep K421
                have f449 := F_requiredFlags_w_PUBACK.keep K421 nin0
                have f450 := F_code_w_PUBACK.keep K421 nin0
                have f451 := E_w_PUBACK.keep K421
                have f452 := F_requiredFlags_w_PUBREC.keep K421 nin0
                have f453 := F_code_w_PUBREC.keep K421 nin0
                have f454 := E_w_PUBREC.keep K421
                have f455 := F_requiredFlags_w_PUBREL.keep K421 nin0
                have f456 := F_code_w_PUBREL.keep K421 nin0
                have f457 := E_w_PUBREL.keep K421
                have f458 := F_requiredFlags_w_PUBCOMP.keep K421 nin0
                have f459 := F_code_w_PUBCOMP.keep K421 nin0
                have f460 := E_w_PUBCOMP.keep K421
                have f461 := F_requiredFlags_w_SUBSCRIBE.keep K421 nin0
                have f462 := F_code_w_SUBSCRIBE.keep K421 nin0
                have f463 := E_w_SUBSCRIBE.keep K421
                have f464 := F_requiredFlags_w_SUBACK.keep K421 nin0
                have f465 := F_code_w_SUBACK.keep K421 nin0
                have f466 := E_w_SUBACK.keep K421
                have f467 := F_requiredFlags_w_UNSUBSCRIBE.keep K421 nin0
                have f468 := F_code_w_UNSUBSCRIBE.keep K421 nin0
                have f469 := E_w_UNSUBSCRIBE.keep K421
                have f470 := F_requiredFlags_w_UNSUBACK.keep K421 nin0
                have f471 := F_code_w_UNSUBACK.keep K421 nin0
                have f472 := E_w_UNSUBACK.keep K421
                have f473 := F_requiredFlags_w_PINGREQ.keep K421 nin0
                have f474 := F_code_w_PINGREQ.keep K421 nin0
                have f475 := E_w_PINGREQ.keep K421
                have f476 := F_requiredFlags_w_PINGRESP.keep K421 nin0
                have f477 := F_code_w_PINGRESP.keep K421 nin0
                have f478 := E_w_PINGRESP.keep K421
                have f479 := F_requiredFlags_w_DISCONNECT.keep K421 nin0
                have f480 := E_w_DISCONNECT.keep K421
                have Z481 := Nat.le_trans Z0 K421.1
                have N482 := Fr.app N420 N421q
                rw [show (own_v112_f4 w_PUBCOMP) = w_PUBCOMP from by first | rfl | decide | simp [own_v112_f4]] at hv421
                subst hv421
                obtain ⟨fs, hr, hrun, hended, hW, hsame⟩ := X421.leave (v := some (.int (1 : Int32))) (fun h => by rw [Bd.returns] at h; cases h)
                refine ⟨_, _, k414 _ ?_, hrun, hended, _, _, rfl, ?_, ⟨_, rfl⟩, hW, hsame.mono (by decide) (by decide)⟩
                · show Steps p.tables e below (s₁.setTop (mkF m 7 #[.val (.int p1), .val (.int p2), .unset, .unset, .unset, .unset, .unset] [(.int (6 : Int32))])) _
                  refine XS.istoreN X0.here hx rfl (hb hby at_7) rfl (l' := #[.val (.int p1), .val (.int p2), .val (.int (6 : Int32)), .unset, .unset, .unset, .unset]) rfl ?_
                  show Steps p.tables e below (s₁.setTop (mkF m 8 #[.val (.int p1), .val (.int p2), .val (.int (6 : Int32)), .unset, .unset, .unset, .unset] [])) _
                  refine XS.iloadN X0.here hx rfl (hb hby at_8) rfl ?_
                  show Steps p.tables e below (s₁.setTop (mkF m 9 #[.val (.int p1), .val (.int p2), .val (.int (6 : Int32)), .unset, .unset, .unset, .unset] [(.int (6 : Int32))])) _
                  refine st415 _ ?_
                  show Steps p.tables e below (T415.setTop (mkF m 12 #[.val (.int p1), .val (.int p2), .val (.int (6 : Int32)), .unset, .unset, .unset, .unset] [(.ref w_PUBCOMP)])) _
                  refine XS.astoreN X415.here hx rfl (hb hby at_12) rfl rfl (l' := #[.val (.int p1), .val (.int p2), .val (.int (6 : Int32)), .val (.ref w_PUBCOMP), .unset, .unset, .unset]) rfl ?_
                  show Steps p.tables e below (T415.setTop (mkF m 13 #[.val (.int p1), .val (.int p2), .val (.int (6 : Int32)), .val (.ref w_PUBCOMP), .unset, .unset, .unset] [])) _
                  refine XS.iloadN X415.here hx rfl (hb hby at_13) rfl ?_
                  show Steps p.tables e below (T415.setTop (mkF m 14 #[.val (.int p1), .val (.int p2), .val (.int (6 : Int32)), .val (.ref w_PUBCOMP), .unset, .unset, .unset] [(.int (6 : Int32))])) _
                  refine XS.iconst X415.here hx rfl (hb hby at_14) ?_
                  show Steps p.tables e below (T415.setTop (mkF m 15 #[.val (.int p1), .val (.int p2), .val (.int (6 : Int32)), .val (.ref w_PUBCOMP), .unset, .unset, .unset] [(.int (2 : Int32)), (.int (6 : Int32))])) _
                  refine XS.icmpYes X415.here hx rfl (pc0 := 15) (pc' := 25) rfl (hb hby at_15) rfl (feq (by decide : ¬ ((6 : Int32) = (2 : Int32)))).2 (by decide) (by decide) ?_
                  show Steps p.tables e below (T415.setTop (mkF m 25 #[.val (.int p1), .val (.int p2), .val (.int (6 : Int32)), .val (.ref w_PUBCOMP), .unset, .unset, .unset] [])) _
                  refine XS.iloadN X415.here hx rfl (hb hby at_25) rfl ?_
                  show Steps p.tables e below (T415.setTop (mkF m 26 #[.val (.int p1), .val (.int p2), .val (.int (6 : Int32)), .val (.ref w_PUBCOMP), .unset, .unset, .unset] [(.int p2)])) _
                  refine XS.istore X415.here hx rfl (hb hby at_26) rfl (l' := #[.val (.int p1), .val (.int p2), .val (.int (6 : Int32)), .val (.ref w_PUBCOMP), .val (.int p2), .unset, .unset]) rfl ?_
                  show Steps p.tables e below (T415.setTop (mkF m 28 #[.val (.int p1), .val (.int p2), .val (.int (6 : Int32)), .val (.ref w_PUBCOMP), .val (.int p2), .unset, .unset] [])) _
                  refine XS.aloadN X415.here hx rfl (hb hby at_28) rfl rfl ?_
                  show Steps p.tables e below (T415.setTop (mkF m 29 #[.val (.int p1), .val (.int p2), .val (.int (6 : Int32)), .val (.ref w_PUBCOMP), .val (.int p2), .unset, .unset] [(.ref w_PUBCOMP)])) _
                  refine XS.iload X415.here hx rfl (hb hby at_29) rfl ?_
                  show Steps p.tables e below (T415.setTop (mkF m 31 #[.val (.int p1), .val (.int p2), .val (.int (6 : Int32)), .val (.ref w_PUBCOMP), .val (.int p2), .unset, .unset] [(.int p2), (.ref w_PUBCOMP)])) _
                  refine st417.trans ?_
                  show Steps p.tables e below (T417.setTop (mkF m 34 #[.val (.int p1), .val (.int p2), .val (.int (6 : Int32)), .val (.ref w_PUBCOMP), .val (.int p2), .unset, .unset] [(.int (112 : Int32))])) _
                  refine XS.istore X417.here hx rfl (hb hby at_34) rfl (l' := #[.val (.int p1), .val (.int p2), .val (.int (6 : Int32)), .val (.ref w_PUBCOMP), .val (.int p2), .val (.int (112 : Int32)), .unset]) rfl ?_
                  show Steps p.tables e below (T417.setTop (mkF m 36 #[.val (.int p1), .val (.int p2), .val (.int (6 : Int32)), .val (.ref w_PUBCOMP), .val (.int p2), .val (.int (112 : Int32)), .unset] [])) _
                  refine XS.iloadN X417.here hx rfl (hb hby at_36) rfl ?_
                  show Steps p.tables e below (T417.setTop (mkF m 37 #[.val (.int p1), .val (.int p2), .val (.int (6 : Int32)), .val (.ref w_PUBCOMP), .val (.int p2), .val (.int (112 : Int32)), .unset] [(.int (6 : Int32))])) _
                  refine XS.iconst X417.here hx rfl (hb hby at_37) ?_
                  show Steps p.tables e below (T417.setTop (mkF m 38 #[.val (.int p1), .val (.int p2), .val (.int (6 : Int32)), .val (.ref w_PUBCOMP), .val (.int p2), .val (.int (112 : Int32)), .unset] [(.int (2 : Int32)), (.int (6 : Int32))])) _
                  refine XS.icmpYes X417.here hx rfl (pc0 := 38) (pc' := 51) rfl (hb hby at_38) rfl (feq (by decide : ¬ ((6 : Int32) = (2 : Int32)))).2 (by decide) (by decide) ?_
                  show Steps p.tables e below (T417.setTop (mkF m 51 #[.val (.int p1), .val (.int p2), .val (.int (6 : Int32)), .val (.ref w_PUBCOMP), .val (.int p2), .val (.int (112 : Int32)), .unset] [])) _
                  refine XS.iloadN X417.here hx rfl (hb hby at_51) rfl ?_
                  show Steps p.tables e below (T417.setTop (mkF m 52 #[.val (.int p1), .val (.int p2), .val (.int (6 : Int32)), .val (.ref w_PUBCOMP), .val (.int p2), .val (.int (112 : Int32)), .unset] [(.int (6 : Int32))])) _
                  refine st419 _ ?_
                  show Steps p.tables e below (T419.setTop (mkF m 55 #[.val (.int p1), .val (.int p2), .val (.int (6 : Int32)), .val (.ref w_PUBCOMP), .val (.int p2), .val (.int (112 : Int32)), .unset] [(.int (112 : Int32))])) _
                  refine XS.istore X419.here hx rfl (hb hby at_55) rfl (l' := #[.val (.int p1), .val (.int p2), .val (.int (6 : Int32)), .val (.ref w_PUBCOMP), .val (.int p2), .val (.int (112 : Int32)), .val (.int (112 : Int32))]) rfl ?_
                  show Steps p.tables e below (T419.setTop (mkF m 57 #[.val (.int p1), .val (.int p2), .val (.int (6 : Int32)), .val (.ref w_PUBCOMP), .val (.int p2), .val (.int (112 : Int32)), .val (.int (112 : Int32))] [])) _
                  refine XS.iload X419.here hx rfl (hb hby at_57) rfl ?_
                  show Steps p.tables e below (T419.setTop (mkF m 59 #[.val (.int p1), .val (.int p2), .val (.int (6 : Int32)), .val (.ref w_PUBCOMP), .val (.int p2), .val (.int (112 : Int32)), .val (.int (112 : Int32))] [(.int (112 : Int32))])) _
                  refine XS.iload X419.here hx rfl (hb hby at_59) rfl ?_
                  show Steps p.tables e below (T419.setTop (mkF m 61 #[.val (.int p1), .val (.int p2), .val (.int (6 : Int32)), .val (.ref w_PUBCOMP), .val (.int p2), .val (.int (112 : Int32)), .val (.int (112 : Int32))] [(.int (112 : Int32)), (.int (112 : Int32))])) _
                  refine XS.icmpNo X419.here hx rfl (hb hby at_61) rfl (teq (by decide : (112 : Int32) = (112 : Int32))).2 ?_
                  show Steps p.tables e below (T419.setTop (mkF m 64 #[.val (.int p1), .val (.int p2), .val (.int (6 : Int32)), .val (.ref w_PUBCOMP), .val (.int p2), .val (.int (112 : Int32)), .val (.int (112 : Int32))] [])) _
                  refine XS.iload X419.here hx rfl (hb hby at_64) rfl ?_
                  show Steps p.tables e below (T419.setTop (mkF m 66 #[.val (.int p1), .val (.int p2), .val (.int (6 : Int32)), .val (.ref w_PUBCOMP), .val (.int p2), .val (.int (112 : Int32)), .val (.int (112 : Int32))] [(.int (112 : Int32))])) _
                  refine st421 _ ?_
                  show Steps p.tables e below (T421.setTop (mkF m 69 #[.val (.int p1), .val (.int p2), .val (.int (6 : Int32)), .val (.ref w_PUBCOMP), .val (.int p2), .val (.int (112 : Int32)), .val (.int (112 : Int32))] [(.ref w_PUBCOMP)])) _
                  refine XS.aloadN X421.here hx rfl (hb hby at_69) rfl rfl ?_
                  show Steps p.tables e below (T421.setTop (mkF m 70 #[.val (.int p1), .val (.int p2), .val (.int (6 : Int32)), .val (.ref w_PUBCOMP), .val (.int p2), .val (.int (112 : Int32)), .val (.int (112 : Int32))] [(.ref w_PUBCOMP), (.ref w_PUBCOMP)])) _
                  refine Jvm.RoadKit.acmp (g := (mkF m 70 #[.val (.int p1), .val (.int p2), .val (.int (6 : Int32)), .val (.ref w_PUBCOMP), .val (.int p2), .val (.int (112 : Int32)), .val (.int (112 : Int32))] [(.ref w_PUBCOMP), (.ref w_PUBCOMP)])) X421 hx rfl rfl rfl (pc0 := 70) (pc' := 73) (same := true) rfl (hb hby at_70) rfl (decide_eq_true rfl) (by decide) (by decide) ?_
                  show Steps p.tables e below (T421.setTop (mkF m 73 #[.val (.int p1), .val (.int p2), .val (.int (6 : Int32)), .val (.ref w_PUBCOMP), .val (.int p2), .val (.int (112 : Int32)), .val (.int (112 : Int32))] [])) _
                  refine XS.iconst X421.here hx rfl (hb hby at_73) ?_
                  show Steps p.tables e below (T421.setTop (mkF m 74 #[.val (.int p1), .val (.int p2), .val (.int (6 : Int32)), .val (.ref w_PUBCOMP), .val (.int p2), .val (.int (112 : Int32)), .val (.int (112 : Int32))] [(.int (1 : Int32))])) _
                  refine XS.goto X421.here hx rfl (pc0 := 74) (pc' := 78) rfl (hb hby at_74) (by decide) (by decide) ?_
                  show Steps p.tables e below (T421.setTop (mkF m 78 #[.val (.int p1), .val (.int p2), .val (.int (6 : Int32)), .val (.ref w_PUBCOMP), .val (.int p2), .val (.int (112 : Int32)), .val (.int (112 : Int32))] [(.int (1 : Int32))])) _
                  exact retN X421 hx (t := .boolean) Bd.returns (by simp) (hb hby at_78) hr
                · show own_Q0 Z p1 p2 w_CONNECT w_CONNACK w_PUBLISH w_PUBACK w_PUBREC w_PUBREL w_PUBCOMP w_SUBSCRIBE w_SUBACK w_UNSUBSCRIBE w_UNSUBACK w_PINGREQ w_PINGRESP w_DISCONNECT k_w__VALUES w__VALUES h0 n0 _ T421.heap _
                  exact ⟨(by rw [own_f0, if_neg hc1, if_neg hc2, if_neg hc3, if_neg hc4, if_neg hc5, if_neg hc6, if_pos hc7]), N482⟩
              ·
                by_cases hc8 : ((p1 &&& (2147483647 : Int32)) - ((p1 &&& (2147483647 : Int32)) / (14 : Int32)) * (14 : Int32)) = (7 : Int32)
                ·
                  have k483 : ∀ t, Steps p.tables e below (s₁.setTop (mkF m 7 #[.val (.int p1), .val (.int p2), .unset, .unset, .unset, .unset, .unset] [(.int (7 : Int32))])) t → Steps p.tables e below (s₁.setTop (entryFrame m #[(.int p1), (.int p2)] maxLocals)) t := by
                    intro t kt
                    refine k1 t ?_
                    rw [hc8]
                    exact kt
                  obtain ⟨v484, _, ⟨T484, L484, k484, n484⟩, -, X484, ⟨Lc484, hQ484, l484, y484, z484⟩, st484⟩ := Jvm.LawKit.callS X0 hx (y := (⟨"com/example/castd/castd/mqtt/PacketTypeFirstBytePinLaw", "type", "(I)Lcom/example/castd/castd/mqtt/PacketType;"⟩ : MethodName)) hown (mvT hZ (hw _ (List.mem_of_getElem? (i := 1) rfl))) (mvT hZ (hw _ (List.mem_of_getElem? (i := 2) rfl))) (mvT hZ (hw _ (List.mem_of_getElem? (i := 3) rfl))) (mvT hZ (hw _ (List.mem_of_getElem? (i := 4) rfl))) (by decide) (backOf (W := 0) (own_rm1 l Z a0 hw [] (7 : Int32) w_CONNECT w_CONNACK w_PUBLISH w_PUBACK w_PUBREC w_PUBREL w_PUBCOMP w_SUBSCRIBE w_SUBACK w_UNSUBSCRIBE w_UNSUBACK w_PINGREQ w_PINGRESP w_DISCONNECT h0 n0 Z0 S_CONNECT S_CONNACK S_PUBLISH S_PUBACK S_PUBREC S_PUBREL S_PUBCOMP S_SUBSCRIBE S_SUBACK S_UNSUBSCRIBE S_UNSUBACK S_PINGREQ S_PINGRESP S_DISCONNECT) hZ (hw _ (List.mem_of_getElem? (i := 4) rfl)) (hw _ (List.mem_of_getElem? (i := 3) rfl)) (by decide) (by decide)) (g := (mkF m 9 #[.val (.int p1), .val (.int p2), .val (.int (7 : Int32)), .unset, .unset, .unset, .unset] [(.int (7 : Int32))])) rfl (by rw [hml]; rfl) (argsL := [(.int (7 : Int32))]) (rest := []) (lenOf own_pd119 rfl) rfl (by show 2 * 0 + _ ≤ _; exact Nat.le_of_eq rfl) (hb hby at_9) (fun _ _ => ⟨rfl, e0, (by decide : 0 + 0 ≤ _), (by decide : 0 + 0 ≤ _)⟩)
                  dsimp only [Pt.U, Pt.locs, Pt.cells, Pt.slots] at X484 l484 y484 z484 st484 hQ484
                  subst l484 y484 z484
                  obtain ⟨hv484, N484q, e484⟩ := hQ484
                  have N485 := Fr.app N0 N484q
                  rw [show (own_f1 (7 : Int32) w_CONNECT w_CONNACK w_PUBLISH w_PUBACK w_PUBREC w_PUBREL w_PUBCOMP w_SUBSCRIBE w_SUBACK w_UNSUBSCRIBE w_UNSUBACK w_PINGREQ w_PINGRESP w_DISCONNECT) = w_SUBSCRIBE from by first | rfl | decide | simp [own_f1]] at hv484
                  subst hv484
                  obtain ⟨cq486, kq486, q486a, q486b, q486c⟩ := isOf hZ e484 E_w_SUBSCRIBE
                  obtain ⟨v486, _, ⟨T486, L486, k486, n486⟩, -, X486, ⟨Lc486, hQ486, l486, y486, z486⟩, st486⟩ := X484.virtualBack hx (y := (⟨"com/example/castd/castd/mqtt/PacketType", "firstByte", "(I)I"⟩ : MethodName)) (z := (⟨"com/example/castd/castd/mqtt/PacketType", "firstByte", "(I)I"⟩ : MethodName)) hown (mvT hZ (hw _ (List.mem_of_getElem? (i := 8) rfl))) (mvT hZ (hw _ (List.mem_of_getElem? (i := 9) rfl))) (notFace_of_selects (args := #[]) (mvT hZ (hw _ (List.mem_of_getElem? (i := 11) rfl)))) (mvT hZ (hw _ (List.mem_of_getElem? (i := 11) rfl))) (mvT hZ (hw _ (List.mem_of_getElem? (i := 10) rfl))) (by decide) (backOf (W := 0) (own_rm2 l Z a0 hw [] w_SUBSCRIBE p2 (2 : Int32) (8 : Int32) h0 n0 Z0 F_requiredFlags_w_SUBSCRIBE F_code_w_SUBSCRIBE) hZ (hw _ (List.mem_of_getElem? (i := 12) rfl)) (hw _ (List.mem_of_getElem? (i := 6) rfl)) (by decide) (by decide)) q486a q486c (g := (mkF m 31 #[.val (.int p1), .val (.int p2), .val (.int (7 : Int32)), .val (.ref w_SUBSCRIBE), .val (.int p2), .unset, .unset] [(.int p2), (.ref w_SUBSCRIBE)])) rfl (by rw [hml]; rfl) (Steps.refl _) (argsL := [(.int p2)]) (rest := []) (lenOf own_pd120 rfl) rfl (by show 2 * 0 + _ ≤ _; exact Nat.le_of_eq rfl) (hb hby at_31) (fun _ _ => ⟨rfl, e484, (by decide : 0 + 0 ≤ _), (by decide : 0 + 0 ≤ _)⟩)
                  dsimp only [Pt.U, Pt.locs, Pt.cells, Pt.slots] at X486 l486 y486 z486 st486 hQ486
                  subst l486 y486 z486
                  obtain ⟨hv486, N486q, e486⟩ := hQ486
                  have N487 := Fr.app N485 N486q
                  rw [show (own_f2 p2 (2 : Int32) (8 : Int32)) = (130 : Int32) from by first | rfl | decide | simp [own_f2]] at hv486
                  subst hv486
                  obtain ⟨v488, _, ⟨T488, L488, k488, n488⟩, -, X488, ⟨Lc488, hQ488, l488, y488, z488⟩, st488⟩ := Jvm.LawKit.callS X486 hx (y := (⟨"com/example/castd/castd/mqtt/PacketTypeFirstBytePinLaw", "fixed", "(I)I"⟩ : MethodName)) hown (mvT hZ (hw _ (List.mem_of_getElem? (i := 17) rfl))) (mvT hZ (hw _ (List.mem_of_getElem? (i := 18) rfl))) (mvT hZ (hw _ (List.mem_of_getElem? (i := 3) rfl))) (mvT hZ (hw _ (List.mem_of_getElem? (i := 19) rfl))) (by decide) (backOf (W := 0) (own_rm3 l Z a0 hw [] (7 : Int32) h0 n0 Z0) hZ (hw _ (List.mem_of_getElem? (i := 19) rfl)) (hw _ (List.mem_of_getElem? (i := 3) rfl)) (by decide) (by decide)) (g := (mkF m 52 #[.val (.int p1), .val (.int p2), .val (.int (7 : Int32)), .val (.ref w_SUBSCRIBE), .val (.int p2), .val (.int (130 : Int32)), .unset] [(.int (7 : Int32))])) rfl (by rw [hml]; rfl) (argsL := [(.int (7 : Int32))]) (rest := []) (lenOf own_pd120 rfl) rfl (by show 2 * 0 + _ ≤ _; exact Nat.le_of_eq rfl) (hb hby at_52) (fun _ _ => ⟨rfl, e486, (by decide : 0 + 0 ≤ _), (by decide : 0 + 0 ≤ _)⟩)
                  dsimp only [Pt.U, Pt.locs, Pt.cells, Pt.slots] at X488 l488 y488 z488 st488 hQ488
                  subst l488 y488 z488
                  obtain ⟨hv488, N488q, e488⟩ := hQ488
                  have N489 := Fr.app N487 N488q
                  rw [show (own_f3 (7 : Int32)) = (130 : Int32) from by first | rfl | decide | simp [own_f3]] at hv488
                  subst hv488
                  obtain ⟨v490, _, ⟨T490, L490, k490, n490⟩, -, X490, ⟨Lc490, hQ490, l490, y490, z490⟩, st490⟩ := Jvm.LawKit.callS X488 hx (y := (⟨"com/example/castd/castd/mqtt/PacketType", "fromFirstByte", "(I)Lcom/example/castd/castd/mqtt/PacketType;"⟩ : MethodName)) hown (mvT hZ (hw _ (List.mem_of_getElem? (i := 20) rfl))) (mvT hZ (hw _ (List.mem_of_getElem? (i := 21) rfl))) (mvT hZ (hw _ (List.mem_of_getElem? (i := 6) rfl))) (mvT hZ (hw _ (List.mem_of_getElem? (i := 22) rfl))) (by decide) (backOf (W := 0) (own_v130_rm4 l Z a0 hw [] w_CONNECT w_DISCONNECT k_w__VALUES w_CONNACK w_PUBLISH w_PUBACK w_PUBREC w_PUBREL w_PUBCOMP w_SUBSCRIBE w_SUBACK w_UNSUBSCRIBE w_UNSUBACK w_PINGREQ w_PINGRESP w__VALUES h0 n0 Z0 S_CONNECT F_code_w_CONNECT S_DISCONNECT F_code_w_DISCONNECT V_w__VALUES S__VALUES E_w__VALUES F_requiredFlags_w_SUBSCRIBE) hZ (hw _ (List.mem_of_getElem? (i := 22) rfl)) (hw _ (List.mem_of_getElem? (i := 6) rfl)) (by decide) (by decide)) (g := (mkF m 66 #[.val (.int p1), .val (.int p2), .val (.int (7 : Int32)), .val (.ref w_SUBSCRIBE), .val (.int p2), .val (.int (130 : Int32)), .val (.int (130 : Int32))] [(.int (130 : Int32))])) rfl (by rw [hml]; rfl) (argsL := [(.int (130 : Int32))]) (rest := []) (lenOf own_pd119 rfl) rfl (by show 2 * 0 + _ ≤ _; exact Nat.le_of_eq rfl) (hb hby at_66) (fun _ _ => ⟨rfl, e488, (by decide : 0 + 1 ≤ _), (by decide : 0 + 14 ≤ _)⟩)
                  dsimp only [Pt.U, Pt.locs, Pt.cells, Pt.slots] at X490 l490 y490 z490 st490 hQ490
                  subst l490 y490 z490
                  obtain ⟨hv490, N490q, K490⟩ := hQ490
                  have f491 := own_staKeep S_CONNECT K490
                  have f492 := own_staKeep S_CONNACK K490
                  have f493 := own_staKeep S_PUBLISH K490
                  have f494 := own_staKeep S_PUBACK K490
                  have f495 := own_staKeep S_PUBREC K490
                  have f496 := own_staKeep S_PUBREL K490
                  have f497 := own_staKeep S_PUBCOMP K490
                  have f498 := own_staKeep S_SUBSCRIBE K490
                  have f499 := own_staKeep S_SUBACK K490
                  have f500 := own_staKeep S_UNSUBSCRIBE K490
                  have f501 := own_staKeep S_UNSUBACK K490
                  have f502 := own_staKeep S_PINGREQ K490
                  have f503 := own_staKeep S_PINGRESP K490
                  have f504 := own_staKeep S_DISCONNECT K490
                  have f505 := F_requiredFlags_w_CONNECT.keep K490 nin0
                  have f506 := F_code_w_CONNECT.keep K490 nin0
                  have f507 := E_w_CONNECT.keep K490
                  have f508 := F_code_w_DISCONNECT.keep K490 nin0
                  have f509 := V_w__VALUES.keep K490 nin0
                  have f510 := own_staKeep S__VALUES K490
                  have f511 := E_w__VALUES.keep K490
                  have f512 := F_requiredFlags_w_CONNACK.keep K490 nin0
                  have f513 := F_code_w_CONNACK.keep K490 nin0
                  have f514 := E_w_CONNACK.keep K490
                  have f515 := F_requiredFlags_w_PUBLISH.keep K490 nin0
                  have f516 := F_code_w_PUBLISH.keep K490 nin0
                  have f517 := E_w_PUBLISH.keep K490
                  have f518 := F_requiredFlags_w_PUBACK.keep K490 nin0
                  have f519 := F_code_w_PUBACK.keep K490 nin0
                  have f520 := E_w_PUBACK.keep K490
                  have f521 := F_requiredFlags_w_PUBREC.keep K490 nin0
                  have f522 := F_code_w_PUBREC.keep K490 nin0
                  have f523 := E_w_PUBREC.keep K490
                  have f524 := F_requiredFlags_w_PUBREL.keep K490 nin0
                  have f525 := F_code_w_PUBREL.keep K490 nin0
                  have f526 := E_w_PUBREL.keep K490
                  have f527 := F_requiredFlags_w_PUBCOMP.keep K490 nin0
                  have f528 := F_code_w_PUBCOMP.keep K490 nin0
                  have f529 := E_w_PUBCOMP.keep K490
                  have f530 := F_requiredFlags_w_SUBSCRIBE.keep K490 nin0
                  have f531 := F_code_w_SUBSCRIBE.keep K490 nin0
                  have f532 := E_w_SUBSCRIBE.keep K490
                  have f533 := F_requiredFlags_w_SUBACK.keep K490 nin0
                  have f534 := F_code_w_SUBACK.keep K490 nin0
                  have f535 := E_w_SUBACK.keep K490
                  have f536 := F_requiredFlags_w_UNSUBSCRIBE.keep K490 nin0
                  have f537 := F_code_w_UNSUBSCRIBE.keep K490 nin0
                  have f538 := E_w_UNSUBSCRIBE.keep K490
                  have f539 := F_requiredFlags_w_UNSUBACK.keep K490 nin0
                  have f540 := F_code_w_UNSUBACK.keep K490 nin0
                  have f541 := E_w_UNSUBACK.keep K490
                  have f542 := F_requiredFlags_w_PINGREQ.keep K490 nin0
                  have f543 := F_code_w_PINGREQ.keep K490 nin0
                  have f544 := E_w_PINGREQ.keep K490
                  have f545 := F_requiredFlags_w_PINGRESP.keep K490 nin0
                  have f546 := F_code_w_PINGRESP.keep K490 nin0
                  have f547 := E_w_PINGRESP.keep K490
                  have f548 := F_requiredFlags_w_DISCONNECT.keep K490 nin0
                  have f549 := E_w_DISCONNECT.keep K490
                  have Z550 := Nat.le_trans Z0 K490.1
                  have N551 := Fr.app N489 N490q
                  rw [show (own_v130_f4 w_SUBSCRIBE) = w_SUBSCRIBE from by first | rfl | decide | simp [own_v130_f4]] at hv490
                  subst hv490
                  obtain ⟨fs, hr, hrun, hended, hW, hsame⟩ := X490.leave (v := some (.int (1 : Int32))) (fun h => by rw [Bd.returns] at h; cases h)
                  refine ⟨_, _, k483 _ ?_, hrun, hended, _, _, rfl, ?_, ⟨_, rfl⟩, hW, hsame.mono (by decide) (by decide)⟩
                  · show Steps p.tables e below (s₁.setTop (mkF m 7 #[.val (.int p1), .val (.int p2), .unset, .unset, .unset, .unset, .unset] [(.int (7 : Int32))])) _
                    refine XS.istoreN X0.here hx rfl (hb hby at_7) rfl (l' := #[.val (.int p1), .val (.int p2), .val (.int (7 : Int32)), .unset, .unset, .unset, .unset]) rfl ?_
                    show Steps p.tables e below (s₁.setTop (mkF m 8 #[.val (.int p1), .val (.int p2), .val (.int (7 : Int32)), .unset, .unset, .unset, .unset] [])) _
                    refine XS.iloadN X0.here hx rfl (hb hby at_8) rfl ?_
                    show Steps p.tables e below (s₁.setTop (mkF m 9 #[.val (.int p1), .val (.int p2), .val (.int (7 : Int32)), .unset, .unset, .unset, .unset] [(.int (7 : Int32))])) _
                    refine st484 _ ?_
                    show Steps p.tables e below (T484.setTop (mkF m 12 #[.val (.int p1), .val (.int p2), .val (.int (7 : Int32)), .unset, .unset, .unset, .unset] [(.ref w_SUBSCRIBE)])) _
                    refine XS.astoreN X484.here hx rfl (hb hby at_12) rfl rfl (l' := #[.val (.int p1), .val (.int p2), .val (.int (7 : Int32)), .val (.ref w_SUBSCRIBE), .unset, .unset, .unset]) rfl ?_
                    show Steps p.tables e below (T484.setTop (mkF m 13 #[.val (.int p1), .val (.int p2), .val (.int (7 : Int32)), .val (.ref w_SUBSCRIBE), .unset, .unset, .unset] [])) _
                    refine XS.iloadN X484.here hx rfl (hb hby at_13) rfl ?_
                    show Steps p.tables e below (T484.setTop (mkF m 14 #[.val (.int p1), .val (.int p2), .val (.int (7 : Int32)), .val (.ref w_SUBSCRIBE), .unset, .unset, .unset] [(.int (7 : Int32))])) _
                    refine XS.iconst X484.here hx rfl (hb hby at_14) ?_
                    show Steps p.tables e below (T484.setTop (mkF m 15 #[.val (.int p1), .val (.int p2), .val (.int (7 : Int32)), .val (.ref w_SUBSCRIBE), .unset, .unset, .unset] [(.int (2 : Int32)), (.int (7 : Int32))])) _
                    refine XS.icmpYes X484.here hx rfl (pc0 := 15) (pc' := 25) rfl (hb hby at_15) rfl (feq (by decide : ¬ ((7 : Int32) = (2 : Int32)))).2 (by decide) (by decide) ?_
                    show Steps p.tables e below (T484.setTop (mkF m 25 #[.val (.int p1), .val (.int p2), .val (.int (7 : Int32)), .val (.ref w_SUBSCRIBE), .unset, .unset, .unset] [])) _
                    refine XS.iloadN X484.here hx rfl (hb hby at_25) rfl ?_
                    show Steps p.tables e below (T484.setTop (mkF m 26 #[.val (.int p1), .val (.int p2), .val (.int (7 : Int32)), .val (.ref w_SUBSCRIBE), .unset, .unset, .unset] [(.int p2)])) _
                    refine XS.istore X484.here hx rfl (hb hby at_26) rfl (l' := #[.val (.int p1), .val (.int p2), .val (.int (7 : Int32)), .val (.ref w_SUBSCRIBE), .val (.int p2), .unset, .unset]) rfl ?_
                    show Steps p.tables e below (T484.setTop (mkF m 28 #[.val (.int p1), .val (.int p2), .val (.int (7 : Int32)), .val (.ref w_SUBSCRIBE), .val (.int p2), .unset, .unset] [])) _
                    refine XS.aloadN X484.here hx rfl (hb hby at_28) rfl rfl ?_
                    show Steps p.tables e below (T484.setTop (mkF m 29 #[.val (.int p1), .val (.int p2), .val (.int (7 : Int32)), .val (.ref w_SUBSCRIBE), .val (.int p2), .unset, .unset] [(.ref w_SUBSCRIBE)])) _
                    refine XS.iload X484.here hx rfl (hb hby at_29) rfl ?_
                    show Steps p.tables e below (T484.setTop (mkF m 31 #[.val (.int p1), .val (.int p2), .val (.int (7 : Int32)), .val (.ref w_SUBSCRIBE), .val (.int p2), .unset, .unset] [(.int p2), (.ref w_SUBSCRIBE)])) _
                    refine st486.trans ?_
                    show Steps p.tables e below (T486.setTop (mkF m 34 #[.val (.int p1), .val (.int p2), .val (.int (7 : Int32)), .val (.ref w_SUBSCRIBE), .val (.int p2), .unset, .unset] [(.int (130 : Int32))])) _
                    refine XS.istore X486.here hx rfl (hb hby at_34) rfl (l' := #[.val (.int p1), .val (.int p2), .val (.int (7 : Int32)), .val (.ref w_SUBSCRIBE), .val (.int p2), .val (.int (130 : Int32)), .unset]) rfl ?_
                    show Steps p.tables e below (T486.setTop (mkF m 36 #[.val (.int p1), .val (.int p2), .val (.int (7 : Int32)), .val (.ref w_SUBSCRIBE), .val (.int p2), .val (.int (130 : Int32)), .unset] [])) _
                    refine XS.iloadN X486.here hx rfl (hb hby at_36) rfl ?_
                    show Steps p.tables e below (T486.setTop (mkF m 37 #[.val (.int p1), .val (.int p2), .val (.int (7 : Int32)), .val (.ref w_SUBSCRIBE), .val (.int p2), .val (.int (130 : Int32)), .unset] [(.int (7 : Int32))])) _
                    refine XS.iconst X486.here hx rfl (hb hby at_37) ?_
                    show Steps p.tables e below (T486.setTop (mkF m 38 #[.val (.int p1), .val (.int p2), .val (.int (7 : Int32)), .val (.ref w_SUBSCRIBE), .val (.int p2), .val (.int (130 : Int32)), .unset] [(.int (2 : Int32)), (.int (7 : Int32))])) _
                    refine XS.icmpYes X486.here hx rfl (pc0 := 38) (pc' := 51) rfl (hb hby at_38) rfl (feq (by decide : ¬ ((7 : Int32) = (2 : Int32)))).2 (by decide) (by decide) ?_
                    show Steps p.tables e below (T486.setTop (mkF m 51 #[.val (.int p1), .val (.int p2), .val (.int (7 : Int32)), .val (.ref w_SUBSCRIBE), .val (.int p2), .val (.int (130 : Int32)), .unset] [])) _
                    refine XS.iloadN X486.here hx rfl (hb hby at_51) rfl ?_
                    show Steps p.tables e below (T486.setTop (mkF m 52 #[.val (.int p1), .val (.int p2), .val (.int (7 : Int32)), .val (.ref w_SUBSCRIBE), .val (.int p2), .val (.int (130 : Int32)), .unset] [(.int (7 : Int32))])) _
                    refine st488 _ ?_
                    show Steps p.tables e below (T488.setTop (mkF m 55 #[.val (.int p1), .val (.int p2), .val (.int (7 : Int32)), .val (.ref w_SUBSCRIBE), .val (.int p2), .val (.int (130 : Int32)), .unset] [(.int (130 : Int32))])) _
                    refine XS.istore X488.here hx rfl (hb hby at_55) rfl (l' := #[.val (.int p1), .val (.int p2), .val (.int (7 : Int32)), .val (.ref w_SUBSCRIBE), .val (.int p2), .val (.int (130 : Int32)), .val (.int (130 : Int32))]) rfl ?_
                    show Steps p.tables e below (T488.setTop (mkF m 57 #[.val (.int p1), .val (.int p2), .val (.int (7 : Int32)), .val (.ref w_SUBSCRIBE), .val (.int p2), .val (.int (130 : Int32)), .val (.int (130 : Int32))] [])) _
                    refine XS.iload X488.here hx rfl (hb hby at_57) rfl ?_
                    show Steps p.tables e below (T488.setTop (mkF m 59 #[.val (.int p1), .val (.int p2), .val (.int (7 : Int32)), .val (.ref w_SUBSCRIBE), .val (.int p2), .val (.int (130 : Int32)), .val (.int (130 : Int32))] [(.int (130 : Int32))])) _
                    refine XS.iload X488.here hx rfl (hb hby at_59) rfl ?_
                    show Steps p.tables e below (T488.setTop (mkF m 61 #[.val (.int p1), .val (.int p2), .val (.int (7 : Int32)), .val (.ref w_SUBSCRIBE), .val (.int p2), .val (.int (130 : Int32)), .val (.int (130 : Int32))] [(.int (130 : Int32)), (.int (130 : Int32))])) _
                    refine XS.icmpNo X488.here hx rfl (hb hby at_61) rfl (teq (by decide : (130 : Int32) = (130 : Int32))).2 ?_
                    show Steps p.tables e below (T488.setTop (mkF m 64 #[.val (.int p1), .val (.int p2), .val (.int (7 : Int32)), .val (.ref w_SUBSCRIBE), .val (.int p2), .val (.int (130 : Int32)), .val (.int (130 : Int32))] [])) _
                    refine XS.iload X488.here hx rfl (hb hby at_64) rfl ?_
                    show Steps p.tables e below (T488.setTop (mkF m 66 #[.val (.int p1), .val (.int p2), .val (.int (7 : Int32)), .val (.ref w_SUBSCRIBE), .val (.int p2), .val (.int (130 : Int32)), .val (.int (130 : Int32))] [(.int (130 : Int32))])) _
                    refine st490 _ ?_
                    show Steps p.tables e below (T490.setTop (mkF m 69 #[.val (.int p1), .val (.int p2), .val (.int (7 : Int32)), .val (.ref w_SUBSCRIBE), .val (.int p2), .val (.int (130 : Int32)), .val (.int (130 : Int32))] [(.ref w_SUBSCRIBE)])) _
                    refine XS.aloadN X490.here hx rfl (hb hby at_69) rfl rfl ?_
                    show Steps p.tables e below (T490.setTop (mkF m 70 #[.val (.int p1), .val (.int p2), .val (.int (7 : Int32)), .val (.ref w_SUBSCRIBE), .val (.int p2), .val (.int (130 : Int32)), .val (.int (130 : Int32))] [(.ref w_SUBSCRIBE), (.ref w_SUBSCRIBE)])) _
                    refine Jvm.RoadKit.acmp (g := (mkF m 70 #[.val (.int p1), .val (.int p2), .val (.int (7 : Int32)), .val (.ref w_SUBSCRIBE), .val (.int p2), .val (.int (130 : Int32)), .val (.int (130 : Int32))] [(.ref w_SUBSCRIBE), (.ref w_SUBSCRIBE)])) X490 hx rfl rfl rfl (pc0 := 70) (pc' := 73) (same := true) rfl (hb hby at_70) rfl (decide_eq_true rfl) (by decide) (by decide) ?_
                    show Steps p.tables e below (T490.setTop (mkF m 73 #[.val (.int p1), .val (.int p2), .val (.int (7 : Int32)), .val (.ref w_SUBSCRIBE), .val (.int p2), .val (.int (130 : Int32)), .val (.int (130 : Int32))] [])) _
                    refine XS.iconst X490.here hx rfl (hb hby at_73) ?_
                    show Steps p.tables e below (T490.setTop (mkF m 74 #[.val (.int p1), .val (.int p2), .val (.int (7 : Int32)), .val (.ref w_SUBSCRIBE), .val (.int p2), .val (.int (130 : Int32)), .val (.int (130 : Int32))] [(.int (1 : Int32))])) _
                    refine XS.goto X490.here hx rfl (pc0 := 74) (pc' := 78) rfl (hb hby at_74) (by decide) (by decide) ?_
                    show Steps p.tables e below (T490.setTop (mkF m 78 #[.val (.int p1), .val (.int p2), .val (.int (7 : Int32)), .val (.ref w_SUBSCRIBE), .val (.int p2), .val (.int (130 : Int32)), .val (.int (130 : Int32))] [(.int (1 : Int32))])) _
                    exact retN X490 hx (t := .boolean) Bd.returns (by simp) (hb hby at_78) hr
                  · show own_Q0 Z p1 p2 w_CONNECT w_CONNACK w_PUBLISH w_PUBACK w_PUBREC w_PUBREL w_PUBCOMP w_SUBSCRIBE w_SUBACK w_UNSUBSCRIBE w_UNSUBACK w_PINGREQ w_PINGRESP w_DISCONNECT k_w__VALUES w__VALUES h0 n0 _ T490.heap _
                    exact ⟨(by rw [own_f0, if_neg hc1, if_neg hc2, if_neg hc3, if_neg hc4, if_neg hc5, if_neg hc6, if_neg hc7, if_pos hc8]), N551⟩
                ·
                  by_cases hc9 : ((p1 &&& (2147483647 : Int32)) - ((p1 &&& (2147483647 : Int32)) / (14 : Int32)) * (14 : Int32)) = (8 : Int32)
                  ·
                    have k552 : ∀ t, Steps p.tables e below (s₁.setTop (mkF m 7 #[.val (.int p1), .val (.int p2), .unset, .unset, .unset, .unset, .unset] [(.int (8 : Int32))])) t → Steps p.tables e below (s₁.setTop (entryFrame m #[(.int p1), (.int p2)] maxLocals)) t := by
                      intro t kt
                      refine k1 t ?_
                      rw [hc9]
                      exact kt
                    obtain ⟨v553, _, ⟨T553, L553, k553, n553⟩, -, X553, ⟨Lc553, hQ553, l553, y553, z553⟩, st553⟩ := Jvm.LawKit.callS X0 hx (y := (⟨"com/example/castd/castd/mqtt/PacketTypeFirstBytePinLaw", "type", "(I)Lcom/example/castd/castd/mqtt/PacketType;"⟩ : MethodName)) hown (mvT hZ (hw _ (List.mem_of_getElem? (i := 1) rfl))) (mvT hZ (hw _ (List.mem_of_getElem? (i := 2) rfl))) (mvT hZ (hw _ (List.mem_of_getElem? (i := 3) rfl))) (mvT hZ (hw _ (List.mem_of_getElem? (i := 4) rfl))) (by decide) (backOf (W := 0) (own_rm1 l Z a0 hw [] (8 : Int32) w_CONNECT w_CONNACK w_PUBLISH w_PUBACK w_PUBREC w_PUBREL w_PUBCOMP w_SUBSCRIBE w_SUBACK w_UNSUBSCRIBE w_UNSUBACK w_PINGREQ w_PINGRESP w_DISCONNECT h0 n0 Z0 S_CONNECT S_CONNACK S_PUBLISH S_PUBACK S_PUBREC S_PUBREL S_PUBCOMP S_SUBSCRIBE S_SUBACK S_UNSUBSCRIBE S_UNSUBACK S_PINGREQ S_PINGRESP S_DISCONNECT) hZ (hw _ (List.mem_of_getElem? (i := 4) rfl)) (hw _ (List.mem_of_getElem? (i := 3) rfl)) (by decide) (by decide)) (g := (mkF m 9 #[.val (.int p1), .val (.int p2), .val (.int (8 : Int32)), .unset, .unset, .unset, .unset] [(.int (8 : Int32))])) rfl (by rw [hml]; rfl) (argsL := [(.int (8 : Int32))]) (rest := []) (lenOf own_pd119 rfl) rfl (by show 2 * 0 + _ ≤ _; exact Nat.le_of_eq rfl) (hb hby at_9) (fun _ _ => ⟨rfl, e0, (by decide : 0 + 0 ≤ _), (by decide : 0 + 0 ≤ _)⟩)
                    dsimp only [Pt.U, Pt.locs, Pt.cells, Pt.slots] at X553 l553 y553 z553 st553 hQ553
                    subst l553 y553 z553
                    obtain ⟨hv553, N553q, e553⟩ := hQ553
                    have N554 := Fr.app N0 N553q
                    rw [show (own_f1 (8 : Int32) w_CONNECT w_CONNACK w_PUBLISH w_PUBACK w_PUBREC w_PUBREL w_PUBCOMP w_SUBSCRIBE w_SUBACK w_UNSUBSCRIBE w_UNSUBACK w_PINGREQ w_PINGRESP w_DISCONNECT) = w_SUBACK from by first | rfl | decide | simp [own_f1]] at hv553
                    subst hv553
                    obtain ⟨cq555, kq555, q555a, q555b, q555c⟩ := isOf hZ e553 E_w_SUBACK
                    obtain ⟨v555, _, ⟨T555, L555, k555, n555⟩, -, X555, ⟨Lc555, hQ555, l555, y555, z555⟩, st555⟩ := X553.virtualBack hx (y := (⟨"com/example/castd/castd/mqtt/PacketType", "firstByte", "(I)I"⟩ : MethodName)) (z := (⟨"com/example/castd/castd/mqtt/PacketType", "firstByte", "(I)I"⟩ : MethodName)) hown (mvT hZ (hw _ (List.mem_of_getElem? (i := 8) rfl))) (mvT hZ (hw _ (List.mem_of_getElem? (i := 9) rfl))) (notFace_of_selects (args := #[]) (mvT hZ (hw _ (List.mem_of_getElem? (i := 11) rfl)))) (mvT hZ (hw _ (List.mem_of_getElem? (i := 11) rfl))) (mvT hZ (hw _ (List.mem_of_getElem? (i := 10) rfl))) (by decide) (backOf (W := 0) (own_rm2 l Z a0 hw [] w_SUBACK p2 (0 : Int32) (9 : Int32) h0 n0 Z0 F_requiredFlags_w_SUBACK F_code_w_SUBACK) hZ (hw _ (List.mem_of_getElem? (i := 12) rfl)) (hw _ (List.mem_of_getElem? (i := 6) rfl)) (by decide) (by decide)) q555a q555c (g := (mkF m 31 #[.val (.int p1), .val (.int p2), .val (.int (8 : Int32)), .val (.ref w_SUBACK), .val (.int p2), .unset, .unset] [(.int p2), (.ref w_SUBACK)])) rfl (by rw [hml]; rfl) (Steps.refl _) (argsL := [(.int p2)]) (rest := []) (lenOf own_pd120 rfl) rfl (by show 2 * 0 + _ ≤ _; exact Nat.le_of_eq rfl) (hb hby at_31) (fun _ _ => ⟨rfl, e553, (by decide : 0 + 0 ≤ _), (by decide : 0 + 0 ≤ _)⟩)
                    dsimp only [Pt.U, Pt.locs, Pt.cells, Pt.slots] at X555 l555 y555 z555 st555 hQ555
                    subst l555 y555 z555
                    obtain ⟨hv555, N555q, e555⟩ := hQ555
                    have N556 := Fr.app N554 N555q
                    rw [show (own_f2 p2 (0 : Int32) (9 : Int32)) = (144 : Int32) from by first | rfl | decide | simp [own_f2]] at hv555
                    subst hv555
                    obtain ⟨v557, _, ⟨T557, L557, k557, n557⟩, -, X557, ⟨Lc557, hQ557, l557, y557, z557⟩, st557⟩ := Jvm.LawKit.callS X555 hx (y := (⟨"com/example/castd/castd/mqtt/PacketTypeFirstBytePinLaw", "fixed", "(I)I"⟩ : MethodName)) hown (mvT hZ (hw _ (List.mem_of_getElem? (i := 17) rfl))) (mvT hZ (hw _ (List.mem_of_getElem? (i := 18) rfl))) (mvT hZ (hw _ (List.mem_of_getElem? (i := 3) rfl))) (mvT hZ (hw _ (List.mem_of_getElem? (i := 19) rfl))) (by decide) (backOf (W := 0) (own_rm3 l Z a0 hw [] (8 : Int32) h0 n0 Z0) hZ (hw _ (List.mem_of_getElem? (i := 19) rfl)) (hw _ (List.mem_of_getElem? (i := 3) rfl)) (by decide) (by decide)) (g := (mkF m 52 #[.val (.int p1), .val (.int p2), .val (.int (8 : Int32)), .val (.ref w_SUBACK), .val (.int p2), .val (.int (144 : Int32)), .unset] [(.int (8 : Int32))])) rfl (by rw [hml]; rfl) (argsL := [(.int (8 : Int32))]) (rest := []) (lenOf own_pd120 rfl) rfl (by show 2 * 0 + _ ≤ _; exact Nat.le_of_eq rfl) (hb hby at_52) (fun _ _ => ⟨rfl, e555, (by decide : 0 + 0 ≤ _), (by decide : 0 + 0 ≤ _)⟩)
                    dsimp only [Pt.U, Pt.locs, Pt.cells, Pt.slots] at X557 l557 y557 z557 st557 hQ557
                    subst l557 y557 z557
                    obtain ⟨hv557, N557q, e557⟩ := hQ557
                    have N558 := Fr.app N556 N557q
                    rw [show (own_f3 (8 : Int32)) = (144 : Int32) from by first | rfl | decide | simp [own_f3]] at hv557
                    subst hv557
                    obtain ⟨v559, _, ⟨T559, L559, k559, n559⟩, -, X559, ⟨Lc559, hQ559, l559, y559, z559⟩, st559⟩ := Jvm.LawKit.callS X557 hx (y := (⟨"com/example/castd/castd/mqtt/PacketType", "fromFirstByte", "(I)Lcom/example/castd/castd/mqtt/PacketType;"⟩ : MethodName)) hown (mvT hZ (hw _ (List.mem_of_getElem? (i := 20) rfl))) (mvT hZ (hw _ (List.mem_of_getElem? (i := 21) rfl))) (mvT hZ (hw _ (List.mem_of_getElem? (i := 6) rfl))) (mvT hZ (hw _ (List.mem_of_getElem? (i := 22) rfl))) (by decide) (backOf (W := 0) (own_v144_rm4 l Z a0 hw [] w_CONNECT w_DISCONNECT k_w__VALUES w_CONNACK w_PUBLISH w_PUBACK w_PUBREC w_PUBREL w_PUBCOMP w_SUBSCRIBE w_SUBACK w_UNSUBSCRIBE w_UNSUBACK w_PINGREQ w_PINGRESP w__VALUES h0 n0 Z0 S_CONNECT F_code_w_CONNECT S_DISCONNECT F_code_w_DISCONNECT V_w__VALUES S__VALUES E_w__VALUES F_requiredFlags_w_SUBACK) hZ (hw _ (List.mem_of_getElem? (i := 22) rfl)) (hw _ (List.mem_of_getElem? (i := 6) rfl)) (by decide) (by decide)) (g := (mkF m 66 #[.val (.int p1), .val (.int p2), .val (.int (8 : Int32)), .val (.ref w_SUBACK), .val (.int p2), .val (.int (144 : Int32)), .val (.int (144 : Int32))] [(.int (144 : Int32))])) rfl (by rw [hml]; rfl) (argsL := [(.int (144 : Int32))]) (rest := []) (lenOf own_pd119 rfl) rfl (by show 2 * 0 + _ ≤ _; exact Nat.le_of_eq rfl) (hb hby at_66) (fun _ _ => ⟨rfl, e557, (by decide : 0 + 1 ≤ _), (by decide : 0 + 14 ≤ _)⟩)
                    dsimp only [Pt.U, Pt.locs, Pt.cells, Pt.slots] at X559 l559 y559 z559 st559 hQ559
                    subst l559 y559 z559
                    obtain ⟨hv559, N559q, K559⟩ := hQ559
                    have f560 := own_staKeep S_CONNECT K559
                    have f561 := own_staKeep S_CONNACK K559
                    have f562 := own_staKeep S_PUBLISH K559
                    have f563 := own_staKeep S_PUBACK K559
                    have f564 := own_staKeep S_PUBREC K559
                    have f565 := own_staKeep S_PUBREL K559
                    have f566 := own_staKeep S_PUBCOMP K559
                    have f567 := own_staKeep S_SUBSCRIBE K559
                    have f568 := own_staKeep S_SUBACK K559
                    have f569 := own_staKeep S_UNSUBSCRIBE K559
                    have f570 := own_staKeep S_UNSUBACK K559
                    have f571 := own_staKeep S_PINGREQ K559
                    have f572 := own_staKeep S_PINGRESP K559
                    have f573 := own_staKeep S_DISCONNECT K559
                    have f574 := F_requiredFlags_w_CONNECT.keep K559 nin0
                    have f575 := F_code_w_CONNECT.keep K559 nin0
                    have f576 := E_w_CONNECT.keep K559
                    have f577 := F_code_w_DISCONNECT.keep K559 nin0
                    have f578 := V_w__VALUES.keep K559 nin0
                    have f579 := own_staKeep S__VALUES K559
                    have f580 := E_w__VALUES.keep K559
                    have f581 := F_requiredFlags_w_CONNACK.keep K559 nin0
                    have f582 := F_code_w_CONNACK.keep K559 nin0
                    have f583 := E_w_CONNACK.keep K559
                    have f584 := F_requiredFlags_w_PUBLISH.keep K559 nin0
                    have f585 := F_code_w_PUBLISH.keep K559 nin0
                    have f586 := E_w_PUBLISH.keep K559
                    have f587 := F_requiredFlags_w_PUBACK.keep K559 nin0
                    have f588 := F_code_w_PUBACK.keep K559 nin0
                    have f589 := E_w_PUBACK.keep K559
                    have f590 := F_requiredFlags_w_PUBREC.keep K559 nin0
                    have f591 := F_code_w_PUBREC.keep K559 nin0
                    have f592 := E_w_PUBREC.keep K559
                    have f593 := F_requiredFlags_w_PUBREL.keep K559 nin0
                    have f594 := F_code_w_PUBREL.keep K559 nin0
                    have f595 := E_w_PUBREL.keep K559
                    have f596 := F_requiredFlags_w_PUBCOMP.keep K559 nin0
                    have f597 := F_code_w_PUBCOMP.keep K559 nin0
                    have f598 := E_w_PUBCOMP.keep K559
                    have f599 := F_requiredFlags_w_SUBSCRIBE.keep K559 nin0
                    have f600 := F_code_w_SUBSCRIBE.keep K559 nin0
                    have f601 := E_w_SUBSCRIBE.keep K559
                    have f602 := F_requiredFlags_w_SUBACK.keep K559 nin0
                    have f603 := F_code_w_SUBACK.keep K559 nin0
                    have f604 := E_w_SUBACK.keep K559
                    have f605 := F_requiredFlags_w_UNSUBSCRIBE.keep K559 nin0
                    have f606 := F_code_w_UNSUBSCRIBE.keep K559 nin0
                    have f607 := E_w_UNSUBSCRIBE.keep K559
                    have f608 := F_requiredFlags_w_UNSUBACK.keep K559 nin0
                    have f609 := F_code_w_UNSUBACK.keep K559 nin0
                    have f610 := E_w_UNSUBACK.keep K559
                    have f611 := F_requiredFlags_w_PINGREQ.keep K559 nin0
                    have f612 := F_code_w_PINGREQ.keep K559 nin0
                    have f613 := E_w_PINGREQ.keep K559
                    have f614 := F_requiredFlags_w_PINGRESP.keep K559 nin0
                    have f615 := F_code_w_PINGRESP.keep K559 nin0
                    have f616 := E_w_PINGRESP.keep K559
                    have f617 := F_requiredFlags_w_DISCONNECT.keep K559 nin0
                    have f618 := E_w_DISCONNECT.keep K559
                    have Z619 := Nat.le_trans Z0 K559.1
                    have N620 := Fr.app N558 N559q
                    rw [show (own_v144_f4 w_SUBACK) = w_SUBACK from by first | rfl | decide | simp [own_v144_f4]] at hv559
                    subst hv559
                    obtain ⟨fs, hr, hrun, hended, hW, hsame⟩ := X559.leave (v := some (.int (1 : Int32))) (fun h => by rw [Bd.returns] at h; cases h)
                    refine ⟨_, _, k552 _ ?_, hrun, hended, _, _, rfl, ?_, ⟨_, rfl⟩, hW, hsame.mono (by decide) (by decide)⟩
                    · show Steps p.tables e below (s₁.setTop (mkF m 7 #[.val (.int p1), .val (.int p2), .unset, .unset, .unset, .unset, .unset] [(.int (8 : Int32))])) _
                      refine XS.istoreN X0.here hx rfl (hb hby at_7) rfl (l' := #[.val (.int p1), .val (.int p2), .val (.int (8 : Int32)), .unset, .unset, .unset, .unset]) rfl ?_
                      show Steps p.tables e below (s₁.setTop (mkF m 8 #[.val (.int p1), .val (.int p2), .val (.int (8 : Int32)), .unset, .unset, .unset, .unset] [])) _
                      refine XS.iloadN X0.here hx rfl (hb hby at_8) rfl ?_
                      show Steps p.tables e below (s₁.setTop (mkF m 9 #[.val (.int p1), .val (.int p2), .val (.int (8 : Int32)), .unset, .unset, .unset, .unset] [(.int (8 : Int32))])) _
                      refine st553 _ ?_
                      show Steps p.tables e below (T553.setTop (mkF m 12 #[.val (.int p1), .val (.int p2), .val (.int (8 : Int32)), .unset, .unset, .unset, .unset] [(.ref w_SUBACK)])) _
                      refine XS.astoreN X553.here hx rfl (hb hby at_12) rfl rfl (l' := #[.val (.int p1), .val (.int p2), .val (.int (8 : Int32)), .val (.ref w_SUBACK), .unset, .unset, .unset]) rfl ?_
                      show Steps p.tables e below (T553.setTop (mkF m 13 #[.val (.int p1), .val (.int p2), .val (.int (8 : Int32)), .val (.ref w_SUBACK), .unset, .unset, .unset] [])) _
                      refine XS.iloadN X553.here hx rfl (hb hby at_13) rfl ?_
                      show Steps p.tables e below (T553.setTop (mkF m 14 #[.val (.int p1), .val (.int p2), .val (.int (8 : Int32)), .val (.ref w_SUBACK), .unset, .unset, .unset] [(.int (8 : Int32))])) _
                      refine XS.iconst X553.here hx rfl (hb hby at_14) ?_
                      show Steps p.tables e below (T553.setTop (mkF m 15 #[.val (.int p1), .val (.int p2), .val (.int (8 : Int32)), .val (.ref w_SUBACK), .unset, .unset, .unset] [(.int (2 : Int32)), (.int (8 : Int32))])) _
                      refine XS.icmpYes X553.here hx rfl (pc0 := 15) (pc' := 25) rfl (hb hby at_15) rfl (feq (by decide : ¬ ((8 : Int32) = (2 : Int32)))).2 (by decide) (by decide) ?_
                      show Steps p.tables e below (T553.setTop (mkF m 25 #[.val (.int p1), .val (.int p2), .val (.int (8 : Int32)), .val (.ref w_SUBACK), .unset, .unset, .unset] [])) _
                      refine XS.iloadN X553.here hx rfl (hb hby at_25) rfl ?_
                      show Steps p.tables e below (T553.setTop (mkF m 26 #[.val (.int p1), .val (.int p2), .val (.int (8 : Int32)), .val (.ref w_SUBACK), .unset, .unset, .unset] [(.int p2)])) _
                      refine XS.istore X553.here hx rfl (hb hby at_26) rfl (l' := #[.val (.int p1), .val (.int p2), .val (.int (8 : Int32)), .val (.ref w_SUBACK), .val (.int p2), .unset, .unset]) rfl ?_
                      show Steps p.tables e below (T553.setTop (mkF m 28 #[.val (.int p1), .val (.int p2), .val (.int (8 : Int32)), .val (.ref w_SUBACK), .val (.int p2), .unset, .unset] [])) _
                      refine XS.aloadN X553.here hx rfl (hb hby at_28) rfl rfl ?_
                      show Steps p.tables e below (T553.setTop (mkF m 29 #[.val (.int p1), .val (.int p2), .val (.int (8 : Int32)), .val (.ref w_SUBACK), .val (.int p2), .unset, .unset] [(.ref w_SUBACK)])) _
                      refine XS.iload X553.here hx rfl (hb hby at_29) rfl ?_
                      show Steps p.tables e below (T553.setTop (mkF m 31 #[.val (.int p1), .val (.int p2), .val (.int (8 : Int32)), .val (.ref w_SUBACK), .val (.int p2), .unset, .unset] [(.int p2), (.ref w_SUBACK)])) _
                      refine st555.trans ?_
                      show Steps p.tables e below (T555.setTop (mkF m 34 #[.val (.int p1), .val (.int p2), .val (.int (8 : Int32)), .val (.ref w_SUBACK), .val (.int p2), .unset, .unset] [(.int (144 : Int32))])) _
                      refine XS.istore X555.here hx rfl (hb hby at_34) rfl (l' := #[.val (.int p1), .val (.int p2), .val (.int (8 : Int32)), .val (.ref w_SUBACK), .val (.int p2), .val (.int (144 : Int32)), .unset]) rfl ?_
                      show Steps p.tables e below (T555.setTop (mkF m 36 #[.val (.int p1), .val (.int p2), .val (.int (8 : Int32)), .val (.ref w_SUBACK), .val (.int p2), .val (.int (144 : Int32)), .unset] [])) _
                      refine XS.iloadN X555.here hx rfl (hb hby at_36) rfl ?_
                      show Steps p.tables e below (T555.setTop (mkF m 37 #[.val (.int p1), .val (.int p2), .val (.int (8 : Int32)), .val (.ref w_SUBACK), .val (.int p2), .val (.int (144 : Int32)), .unset] [(.int (8 : Int32))])) _
                      refine XS.iconst X555.here hx rfl (hb hby at_37) ?_
                      show Steps p.tables e below (T555.setTop (mkF m 38 #[.val (.int p1), .val (.int p2), .val (.int (8 : Int32)), .val (.ref w_SUBACK), .val (.int p2), .val (.int (144 : Int32)), .unset] [(.int (2 : Int32)), (.int (8 : Int32))])) _
                      refine XS.icmpYes X555.here hx rfl (pc0 := 38) (pc' := 51) rfl (hb hby at_38) rfl (feq (by decide : ¬ ((8 : Int32) = (2 : Int32)))).2 (by decide) (by decide) ?_
                      show Steps p.tables e below (T555.setTop (mkF m 51 #[.val (.int p1), .val (.int p2), .val (.int (8 : Int32)), .val (.ref w_SUBACK), .val (.int p2), .val (.int (144 : Int32)), .unset] [])) _
                      refine XS.iloadN X555.here hx rfl (hb hby at_51) rfl ?_
                      show Steps p.tables e below (T555.setTop (mkF m 52 #[.val (.int p1), .val (.int p2), .val (.int (8 : Int32)), .val (.ref w_SUBACK), .val (.int p2), .val (.int (144 : Int32)), .unset] [(.int (8 : Int32))])) _
                      refine st557 _ ?_
                      show Steps p.tables e below (T557.setTop (mkF m 55 #[.val (.int p1), .val (.int p2), .val (.int (8 : Int32)), .val (.ref w_SUBACK), .val (.int p2), .val (.int (144 : Int32)), .unset] [(.int (144 : Int32))])) _
                      refine XS.istore X557.here hx rfl (hb hby at_55) rfl (l' := #[.val (.int p1), .val (.int p2), .val (.int (8 : Int32)), .val (.ref w_SUBACK), .val (.int p2), .val (.int (144 : Int32)), .val (.int (144 : Int32))]) rfl ?_
                      show Steps p.tables e below (T557.setTop (mkF m 57 #[.val (.int p1), .val (.int p2), .val (.int (8 : Int32)), .val (.ref w_SUBACK), .val (.int p2), .val (.int (144 : Int32)), .val (.int (144 : Int32))] [])) _
                      refine XS.iload X557.here hx rfl (hb hby at_57) rfl ?_
                      show Steps p.tables e below (T557.setTop (mkF m 59 #[.val (.int p1), .val (.int p2), .val (.int (8 : Int32)), .val (.ref w_SUBACK), .val (.int p2), .val (.int (144 : Int32)), .val (.int (144 : Int32))] [(.int (144 : Int32))])) _
                      refine XS.iload X557.here hx rfl (hb hby at_59) rfl ?_
                      show Steps p.tables e below (T557.setTop (mkF m 61 #[.val (.int p1), .val (.int p2), .val (.int (8 : Int32)), .val (.ref w_SUBACK), .val (.int p2), .val (.int (144 : Int32)), .val (.int (144 : Int32))] [(.int (144 : Int32)), (.int (144 : Int32))])) _
                      refine XS.icmpNo X557.here hx rfl (hb hby at_61) rfl (teq (by decide : (144 : Int32) = (144 : Int32))).2 ?_
                      show Steps p.tables e below (T557.setTop (mkF m 64 #[.val (.int p1), .val (.int p2), .val (.int (8 : Int32)), .val (.ref w_SUBACK), .val (.int p2), .val (.int (144 : Int32)), .val (.int (144 : Int32))] [])) _
                      refine XS.iload X557.here hx rfl (hb hby at_64) rfl ?_
                      show Steps p.tables e below (T557.setTop (mkF m 66 #[.val (.int p1), .val (.int p2), .val (.int (8 : Int32)), .val (.ref w_SUBACK), .val (.int p2), .val (.int (144 : Int32)), .val (.int (144 : Int32))] [(.int (144 : Int32))])) _
                      refine st559 _ ?_
                      show Steps p.tables e below (T559.setTop (mkF m 69 #[.val (.int p1), .val (.int p2), .val (.int (8 : Int32)), .val (.ref w_SUBACK), .val (.int p2), .val (.int (144 : Int32)), .val (.int (144 : Int32))] [(.ref w_SUBACK)])) _
                      refine XS.aloadN X559.here hx rfl (hb hby at_69) rfl rfl ?_
                      show Steps p.tables e below (T559.setTop (mkF m 70 #[.val (.int p1), .val (.int p2), .val (.int (8 : Int32)), .val (.ref w_SUBACK), .val (.int p2), .val (.int (144 : Int32)), .val (.int (144 : Int32))] [(.ref w_SUBACK), (.ref w_SUBACK)])) _
                      refine Jvm.RoadKit.acmp (g := (mkF m 70 #[.val (.int p1), .val (.int p2), .val (.int (8 : Int32)), .val (.ref w_SUBACK), .val (.int p2), .val (.int (144 : Int32)), .val (.int (144 : Int32))] [(.ref w_SUBACK), (.ref w_SUBACK)])) X559 hx rfl rfl rfl (pc0 := 70) (pc' := 73) (same := true) rfl (hb hby at_70) rfl (decide_eq_true rfl) (by decide) (by decide) ?_
                      show Steps p.tables e below (T559.setTop (mkF m 73 #[.val (.int p1), .val (.int p2), .val (.int (8 : Int32)), .val (.ref w_SUBACK), .val (.int p2), .val (.int (144 : Int32)), .val (.int (144 : Int32))] [])) _
                      refine XS.iconst X559.here hx rfl (hb hby at_73) ?_
                      show Steps p.tables e below (T559.setTop (mkF m 74 #[.val (.int p1), .val (.int p2), .val (.int (8 : Int32)), .val (.ref w_SUBACK), .val (.int p2), .val (.int (144 : Int32)), .val (.int (144 : Int32))] [(.int (1 : Int32))])) _
                      refine XS.goto X559.here hx rfl (pc0 := 74) (pc' := 78) rfl (hb hby at_74) (by decide) (by decide) ?_
                      show Steps p.tables e below (T559.setTop (mkF m 78 #[.val (.int p1), .val (.int p2), .val (.int (8 : Int32)), .val (.ref w_SUBACK), .val (.int p2), .val (.int (144 : Int32)), .val (.int (144 : Int32))] [(.int (1 : Int32))])) _
                      exact retN X559 hx (t := .boolean) Bd.returns (by simp) (hb hby at_78) hr
                    · show own_Q0 Z p1 p2 w_CONNECT w_CONNACK w_PUBLISH w_PUBACK w_PUBREC w_PUBREL w_PUBCOMP w_SUBSCRIBE w_SUBACK w_UNSUBSCRIBE w_UNSUBACK w_PINGREQ w_PINGRESP w_DISCONNECT k_w__VALUES w__VALUES h0 n0 _ T559.heap _
                      exact ⟨(by rw [own_f0, if_neg hc1, if_neg hc2, if_neg hc3, if_neg hc4, if_neg hc5, if_neg hc6, if_neg hc7, if_neg hc8, if_pos hc9]), N620⟩
                  ·
                    by_cases hc10 : ((p1 &&& (2147483647 : Int32)) - ((p1 &&& (2147483647 : Int32)) / (14 : Int32)) * (14 : Int32)) = (9 : Int32)
                    ·
                      have k621 : ∀ t, Steps p.tables e below (s₁.setTop (mkF m 7 #[.val (.int p1), .val (.int p2), .unset, .unset, .unset, .unset, .unset] [(.int (9 : Int32))])) t → Steps p.tables e below (s₁.setTop (entryFrame m #[(.int p1), (.int p2)] maxLocals)) t := by
                        intro t kt
                        refine k1 t ?_
                        rw [hc10]
                        exact kt
                      obtain ⟨v622, _, ⟨T622, L622, k622, n622⟩, -, X622, ⟨Lc622, hQ622, l622, y622, z622⟩, st622⟩ := Jvm.LawKit.callS X0 hx (y := (⟨"com/example/castd/castd/mqtt/PacketTypeFirstBytePinLaw", "type", "(I)Lcom/example/castd/castd/mqtt/PacketType;"⟩ : MethodName)) hown (mvT hZ (hw _ (List.mem_of_getElem? (i := 1) rfl))) (mvT hZ (hw _ (List.mem_of_getElem? (i := 2) rfl))) (mvT hZ (hw _ (List.mem_of_getElem? (i := 3) rfl))) (mvT hZ (hw _ (List.mem_of_getElem? (i := 4) rfl))) (by decide) (backOf (W := 0) (own_rm1 l Z a0 hw [] (9 : Int32) w_CONNECT w_CONNACK w_PUBLISH w_PUBACK w_PUBREC w_PUBREL w_PUBCOMP w_SUBSCRIBE w_SUBACK w_UNSUBSCRIBE w_UNSUBACK w_PINGREQ w_PINGRESP w_DISCONNECT h0 n0 Z0 S_CONNECT S_CONNACK S_PUBLISH S_PUBACK S_PUBREC S_PUBREL S_PUBCOMP S_SUBSCRIBE S_SUBACK S_UNSUBSCRIBE S_UNSUBACK S_PINGREQ S_PINGRESP S_DISCONNECT) hZ (hw _ (List.mem_of_getElem? (i := 4) rfl)) (hw _ (List.mem_of_getElem? (i := 3) rfl)) (by decide) (by decide)) (g := (mkF m 9 #[.val (.int p1), .val (.int p2), .val (.int (9 : Int32)), .unset, .unset, .unset, .unset] [(.int (9 : Int32))])) rfl (by rw [hml]; rfl) (argsL := [(.int (9 : Int32))]) (rest := []) (lenOf own_pd119 rfl) rfl (by show 2 * 0 + _ ≤ _; exact Nat.le_of_eq rfl) (hb hby at_9) (fun _ _ => ⟨rfl, e0, (by decide : 0 + 0 ≤ _), (by decide : 0 + 0 ≤ _)⟩)
                      dsimp only [Pt.U, Pt.locs, Pt.cells, Pt.slots] at X622 l622 y622 z622 st622 hQ622
                      subst l622 y622 z622
                      obtain ⟨hv622, N622q, e622⟩ := hQ622
                      have N623 := Fr.app N0 N622q
                      rw [show (own_f1 (9 : Int32) w_CONNECT w_CONNACK w_PUBLISH w_PUBACK w_PUBREC w_PUBREL w_PUBCOMP w_SUBSCRIBE w_SUBACK w_UNSUBSCRIBE w_UNSUBACK w_PINGREQ w_PINGRESP w_DISCONNECT) = w_UNSUBSCRIBE from by first | rfl | decide | simp [own_f1]] at hv622
                      subst hv622
                      obtain ⟨cq624, kq624, q624a, q624b, q624c⟩ := isOf hZ e622 E_w_UNSUBSCRIBE
                      obtain ⟨v624, _, ⟨T624, L624, k624, n624⟩, -, X624, ⟨Lc624, hQ624, l624, y624, z624⟩, st624⟩ := X622.virtualBack hx (y := (⟨"com/example/castd/castd/mqtt/PacketType", "firstByte", "(I)I"⟩ : MethodName)) (z := (⟨"com/example/castd/castd/mqtt/PacketType", "firstByte", "(I)I"⟩ : MethodName)) hown (mvT hZ (hw _ (List.mem_of_getElem? (i := 8) rfl))) (mvT hZ (hw _ (List.mem_of_getElem? (i := 9) rfl))) (notFace_of_selects (args := #[]) (mvT hZ (hw _ (List.mem_of_getElem? (i := 11) rfl)))) (mvT hZ (hw _ (List.mem_of_getElem? (i := 11) rfl))) (mvT hZ (hw _ (List.mem_of_getElem? (i := 10) rfl))) (by decide) (backOf (W := 0) (own_rm2 l Z a0 hw [] w_UNSUBSCRIBE p2 (2 : Int32) (10 : Int32) h0 n0 Z0 F_requiredFlags_w_UNSUBSCRIBE F_code_w_UNSUBSCRIBE) hZ (hw _ (List.mem_of_getElem? (i := 12) rfl)) (hw _ (List.mem_of_getElem? (i := 6) rfl)) (by decide) (by decide)) q624a q624c (g := (mkF m 31 #[.val (.int p1), .val (.int p2), .val (.int (9 : Int32)), .val (.ref w_UNSUBSCRIBE), .val (.int p2), .unset, .unset] [(.int p2), (.ref w_UNSUBSCRIBE)])) rfl (by rw [hml]; rfl) (Steps.refl _) (argsL := [(.int p2)]) (rest := []) (lenOf own_pd120 rfl) rfl (by show 2 * 0 + _ ≤ _; exact Nat.le_of_eq rfl) (hb hby at_31) (fun _ _ => ⟨rfl, e622, (by decide : 0 + 0 ≤ _), (by decide : 0 + 0 ≤ _)⟩)
                      dsimp only [Pt.U, Pt.locs, Pt.cells, Pt.slots] at X624 l624 y624 z624 st624 hQ624
                      subst l624 y624 z624
                      obtain ⟨hv624, N624q, e624⟩ := hQ624
                      have N625 := Fr.app N623 N624q
                      rw [show (own_f2 p2 (2 : Int32) (10 : Int32)) = (162 : Int32) from by first | rfl | decide | simp [own_f2]] at hv624
                      subst hv624
                      obtain ⟨v626, _, ⟨T626, L626, k626, n626⟩, -, X626, ⟨Lc626, hQ626, l626, y626, z626⟩, st626⟩ := Jvm.LawKit.callS X624 hx (y := (⟨"com/example/castd/castd/mqtt/PacketTypeFirstBytePinLaw", "fixed", "(I)I"⟩ : MethodName)) hown (mvT hZ (hw _ (List.mem_of_getElem? (i := 17) rfl))) (mvT hZ (hw _ (List.mem_of_getElem? (i := 18) rfl))) (mvT hZ (hw _ (List.mem_of_getElem? (i := 3) rfl))) (mvT hZ (hw _ (List.mem_of_getElem? (i := 19) rfl))) (by decide) (backOf (W := 0) (own_rm3 l Z a0 hw [] (9 : Int32) h0 n0 Z0) hZ (hw _ (List.mem_of_getElem? (i := 19) rfl)) (hw _ (List.mem_of_getElem? (i := 3) rfl)) (by decide) (by decide)) (g := (mkF m 52 #[.val (.int p1), .val (.int p2), .val (.int (9 : Int32)), .val (.ref w_UNSUBSCRIBE), .val (.int p2), .val (.int (162 : Int32)), .unset] [(.int (9 : Int32))])) rfl (by rw [hml]; rfl) (argsL := [(.int (9 : Int32))]) (rest := []) (lenOf own_pd120 rfl) rfl (by show 2 * 0 + _ ≤ _; exact Nat.le_of_eq rfl) (hb hby at_52) (fun _ _ => ⟨rfl, e624, (by decide : 0 + 0 ≤ _), (by decide : 0 + 0 ≤ _)⟩)
                      dsimp only [Pt.U, Pt.locs, Pt.cells, Pt.slots] at X626 l626 y626 z626 st626 hQ626
                      subst l626 y626 z626
                      obtain ⟨hv626, N626q, e626⟩ := hQ626
                      have N627 := Fr.app N625 N626q
                      rw [show (own_f3 (9 : Int32)) = (162 : Int32) from by first | rfl | decide | simp [own_f3]] at hv626
                      subst hv626
                      obtain ⟨v628, _, ⟨T628, L628, k628, n628⟩, -, X628, ⟨Lc628, hQ628, l628, y628, z628⟩, st628⟩ := Jvm.LawKit.callS X626 hx (y := (⟨"com/example/castd/castd/mqtt/PacketType", "fromFirstByte", "(I)Lcom/example/castd/castd/mqtt/PacketType;"⟩ : MethodName)) hown (mvT hZ (hw _ (List.mem_of_getElem? (i := 20) rfl))) (mvT hZ (hw _ (List.mem_of_getElem? (i := 21) rfl))) (mvT hZ (hw _ (List.mem_of_getElem? (i := 6) rfl))) (mvT hZ (hw _ (List.mem_of_getElem? (i := 22) rfl))) (by decide) (backOf (W := 0) (own_v162_rm4 l Z a0 hw [] w_CONNECT w_DISCONNECT k_w__VALUES w_CONNACK w_PUBLISH w_PUBACK w_PUBREC w_PUBREL w_PUBCOMP w_SUBSCRIBE w_SUBACK w_UNSUBSCRIBE w_UNSUBACK w_PINGREQ w_PINGRESP w__VALUES h0 n0 Z0 S_CONNECT F_code_w_CONNECT S_DISCONNECT F_code_w_DISCONNECT V_w__VALUES S__VALUES E_w__VALUES F_requiredFlags_w_UNSUBSCRIBE) hZ (hw _ (List.mem_of_getElem? (i := 22) rfl)) (hw _ (List.mem_of_getElem? (i := 6) rfl)) (by decide) (by decide)) (g := (mkF m 66 #[.val (.int p1), .val (.int p2), .val (.int (9 : Int32)), .val (.ref w_UNSUBSCRIBE), .val (.int p2), .val (.int (162 : Int32)), .val (.int (162 : Int32))] [(.int (162 : Int32))])) rfl (by rw [hml]; rfl) (argsL := [(.int (162 : Int32))]) (rest := []) (lenOf own_pd119 rfl) rfl (by show 2 * 0 + _ ≤ _; exact Nat.le_of_eq rfl) (hb hby at_66) (fun _ _ => ⟨rfl, e626, (by decide : 0 + 1 ≤ _), (by decide : 0 + 14 ≤ _)⟩)
                      dsimp only [Pt.U, Pt.locs, Pt.cells, Pt.slots] at X628 l628 y628 z628 st628 hQ628
                      subst l628 y628 z628
                      obtain ⟨hv628, N628q, K628⟩ := hQ628
                      have f629 := own_staKeep S_CONNECT K628
                      have f630 := own_staKeep S_CONNACK K628
                      have f631 := own_staKeep S_PUBLISH K628
                      have f632 := own_staKeep S_PUBACK K628
                      have f633 := own_staKeep S_PUBREC K628
                      have f634 := own_staKeep S_PUBREL K628
                      have f635 := own_staKeep S_PUBCOMP K628
                      have f636 := own_staKeep S_SUBSCRIBE K628
                      have f637 := own_staKeep S_SUBACK K628
                      have f638 := own_staKeep S_UNSUBSCRIBE K628
                      have f639 := own_staKeep S_UNSUBACK K628
                      have f640 := own_staKeep S_PINGREQ K628
                      have f641 := own_staKeep S_PINGRESP K628
                      have f642 := own_staKeep S_DISCONNECT K628
                      have f643 := F_requiredFlags_w_CONNECT.keep K628 nin0
                      have f644 := F_code_w_CONNECT.keep K628 nin0
                      have f645 := E_w_CONNECT.keep K628
                      have f646 := F_code_w_DISCONNECT.keep K628 nin0
                      have f647 := V_w__VALUES.keep K628 nin0
                      have f648 := own_staKeep S__VALUES K628
                      have f649 := E_w__VALUES.keep K628
                      have f650 := F_requiredFlags_w_CONNACK.keep K628 nin0
                      have f651 := F_code_w_CONNACK.keep K628 nin0
                      have f652 := E_w_CONNACK.keep K628
                      have f653 := F_requiredFlags_w_PUBLISH.keep K628 nin0
                      have f654 := F_code_w_PUBLISH.keep K628 nin0
                      have f655 := E_w_PUBLISH.keep K628
                      have f656 := F_requiredFlags_w_PUBACK.keep K628 nin0
                      have f657 := F_code_w_PUBACK.keep K628 nin0
                      have f658 := E_w_PUBACK.keep K628
                      have f659 := F_requiredFlags_w_PUBREC.keep K628 nin0
                      have f660 := F_code_w_PUBREC.keep K628 nin0
                      have f661 := E_w_PUBREC.keep K628
                      have f662 := F_requiredFlags_w_PUBREL.keep K628 nin0
                      have f663 := F_code_w_PUBREL.keep K628 nin0
                      have f664 := E_w_PUBREL.keep K628
                      have f665 := F_requiredFlags_w_PUBCOMP.keep K628 nin0
                      have f666 := F_code_w_PUBCOMP.keep K628 nin0
                      have f667 := E_w_PUBCOMP.keep K628
                      have f668 := F_requiredFlags_w_SUBSCRIBE.keep K628 nin0
                      have f669 := F_code_w_SUBSCRIBE.keep K628 nin0
                      have f670 := E_w_SUBSCRIBE.keep K628
                      have f671 := F_requiredFlags_w_SUBACK.keep K628 nin0
                      have f672 := F_code_w_SUBACK.keep K628 nin0
                      have f673 := E_w_SUBACK.keep K628
                      have f674 := F_requiredFlags_w_UNSUBSCRIBE.keep K628 nin0
                      have f675 := F_code_w_UNSUBSCRIBE.keep K628 nin0
                      have f676 := E_w_UNSUBSCRIBE.keep K628
                      have f677 := F_requiredFlags_w_UNSUBACK.keep K628 nin0
                      have f678 := F_code_w_UNSUBACK.keep K628 nin0
                      have f679 := E_w_UNSUBACK.keep K628
                      have f680 := F_requiredFlags_w_PINGREQ.keep K628 nin0
                      have f681 := F_code_w_PINGREQ.keep K628 nin0
                      have f682 := E_w_PINGREQ.keep K628
                      have f683 := F_requiredFlags_w_PINGRESP.keep K628 nin0
                      have f684 := F_code_w_PINGRESP.keep K628 nin0
                      have f685 := E_w_PINGRESP.keep K628
                      have f686 := F_requiredFlags_w_DISCONNECT.keep K628 nin0
                      have f687 := E_w_DISCONNECT.keep K628
                      have Z688 := Nat.le_trans Z0 K628.1
                      have N689 := Fr.app N627 N628q
                      rw [show (own_v162_f4 w_UNSUBSCRIBE) = w_UNSUBSCRIBE from by first | rfl | decide | simp [own_v162_f4]] at hv628
                      subst hv628
                      obtain ⟨fs, hr, hrun, hended, hW, hsame⟩ := X628.leave (v := some (.int (1 : Int32))) (fun h => by rw [Bd.returns] at h; cases h)
                      refine ⟨_, _, k621 _ ?_, hrun, hended, _, _, rfl, ?_, ⟨_, rfl⟩, hW, hsame.mono (by decide) (by decide)⟩
                      · show Steps p.tables e below (s₁.setTop (mkF m 7 #[.val (.int p1), .val (.int p2), .unset, .unset, .unset, .unset, .unset] [(.int (9 : Int32))])) _
                        refine XS.istoreN X0.here hx rfl (hb hby at_7) rfl (l' := #[.val (.int p1), .val (.int p2), .val (.int (9 : Int32)), .unset, .unset, .unset, .unset]) rfl ?_
                        show Steps p.tables e below (s₁.setTop (mkF m 8 #[.val (.int p1), .val (.int p2), .val (.int (9 : Int32)), .unset, .unset, .unset, .unset] [])) _
                        refine XS.iloadN X0.here hx rfl (hb hby at_8) rfl ?_
                        show Steps p.tables e below (s₁.setTop (mkF m 9 #[.val (.int p1), .val (.int p2), .val (.int (9 : Int32)), .unset, .unset, .unset, .unset] [(.int (9 : Int32))])) _
                        refine st622 _ ?_
                        show Steps p.tables e below (T622.setTop (mkF m 12 #[.val (.int p1), .val (.int p2), .val (.int (9 : Int32)), .unset, .unset, .unset, .unset] [(.ref w_UNSUBSCRIBE)])) _
                        refine XS.astoreN X622.here hx rfl (hb hby at_12) rfl rfl (l' := #[.val (.int p1), .val (.int p2), .val (.int (9 : Int32)), .val (.ref w_UNSUBSCRIBE), .unset, .unset, .unset]) rfl ?_
                        show Steps p.tables e below (T622.setTop (mkF m 13 #[.val (.int p1), .val (.int p2), .val (.int (9 : Int32)), .val (.ref w_UNSUBSCRIBE), .unset, .unset, .unset] [])) _
                        refine XS.iloadN X622.here hx rfl (hb hby at_13) rfl ?_
                        show Steps p.tables e below (T622.setTop (mkF m 14 #[.val (.int p1), .val (.int p2), .val (.int (9 : Int32)), .val (.ref w_UNSUBSCRIBE), .unset, .unset, .unset] [(.int (9 : Int32))])) _
                        refine XS.iconst X622.here hx rfl (hb hby at_14) ?_
                        show Steps p.tables e below (T622.setTop (mkF m 15 #[.val (.int p1), .val (.int p2), .val (.int (9 : Int32)), .val (.ref w_UNSUBSCRIBE), .unset, .unset, .unset] [(.int (2 : Int32)), (.int (9 : Int32))])) _
                        refine XS.icmpYes X622.here hx rfl (pc0 := 15) (pc' := 25) rfl (hb hby at_15) rfl (feq (by decide : ¬ ((9 : Int32) = (2 : Int32)))).2 (by decide) (by decide) ?_
                        show Steps p.tables e below (T622.setTop (mkF m 25 #[.val (.int p1), .val (.int p2), .val (.int (9 : Int32)), .val (.ref w_UNSUBSCRIBE), .unset, .unset, .unset] [])) _
                        refine XS.iloadN X622.here hx rfl (hb hby at_25) rfl ?_
                        show Steps p.tables e below (T622.setTop (mkF m 26 #[.val (.int p1), .val (.int p2), .val (.int (9 : Int32)), .val (.ref w_UNSUBSCRIBE), .unset, .unset, .unset] [(.int p2)])) _
                        refine XS.istore X622.here hx rfl (hb hby at_26) rfl (l' := #[.val (.int p1), .val (.int p2), .val (.int (9 : Int32)), .val (.ref w_UNSUBSCRIBE), .val (.int p2), .unset, .unset]) rfl ?_
                        show Steps p.tables e below (T622.setTop (mkF m 28 #[.val (.int p1), .val (.int p2), .val (.int (9 : Int32)), .val (.ref w_UNSUBSCRIBE), .val (.int p2), .unset, .unset] [])) _
                        refine XS.aloadN X622.here hx rfl (hb hby at_28) rfl rfl ?_
                        show Steps p.tables e below (T622.setTop (mkF m 29 #[.val (.int p1), .val (.int p2), .val (.int (9 : Int32)), .val (.ref w_UNSUBSCRIBE), .val (.int p2), .unset, .unset] [(.ref w_UNSUBSCRIBE)])) _
                        refine XS.iload X622.here hx rfl (hb hby at_29) rfl ?_
                        show Steps p.tables e below (T622.setTop (mkF m 31 #[.val (.int p1), .val (.int p2), .val (.int (9 : Int32)), .val (.ref w_UNSUBSCRIBE), .val (.int p2), .unset, .unset] [(.int p2), (.ref w_UNSUBSCRIBE)])) _
                        refine st624.trans ?_
                        show Steps p.tables e below (T624.setTop (mkF m 34 #[.val (.int p1), .val (.int p2), .val (.int (9 : Int32)), .val (.ref w_UNSUBSCRIBE), .val (.int p2), .unset, .unset] [(.int (162 : Int32))])) _
                        refine XS.istore X624.here hx rfl (hb hby at_34) rfl (l' := #[.val (.int p1), .val (.int p2), .val (.int (9 : Int32)), .val (.ref w_UNSUBSCRIBE), .val (.int p2), .val (.int (162 : Int32)), .unset]) rfl ?_
                        show Steps p.tables e below (T624.setTop (mkF m 36 #[.val (.int p1), .val (.int p2), .val (.int (9 : Int32)), .val (.ref w_UNSUBSCRIBE), .val (.int p2), .val (.int (162 : Int32)), .unset] [])) _
                        refine XS.iloadN X624.here hx rfl (hb hby at_36) rfl ?_
                        show Steps p.tables e below (T624.setTop (mkF m 37 #[.val (.int p1), .val (.int p2), .val (.int (9 : Int32)), .val (.ref w_UNSUBSCRIBE), .val (.int p2), .val (.int (162 : Int32)), .unset] [(.int (9 : Int32))])) _
                        refine XS.iconst X624.here hx rfl (hb hby at_37) ?_
                        show Steps p.tables e below (T624.setTop (mkF m 38 #[.val (.int p1), .val (.int p2), .val (.int (9 : Int32)), .val (.ref w_UNSUBSCRIBE), .val (.int p2), .val (.int (162 : Int32)), .unset] [(.int (2 : Int32)), (.int (9 : Int32))])) _
                        refine XS.icmpYes X624.here hx rfl (pc0 := 38) (pc' := 51) rfl (hb hby at_38) rfl (feq (by decide : ¬ ((9 : Int32) = (2 : Int32)))).2 (by decide) (by decide) ?_
                        show Steps p.tables e below (T624.setTop (mkF m 51 #[.val (.int p1), .val (.int p2), .val (.int (9 : Int32)), .val (.ref w_UNSUBSCRIBE), .val (.int p2), .val (.int (162 : Int32)), .unset] [])) _
                        refine XS.iloadN X624.here hx rfl (hb hby at_51) rfl ?_
                        show Steps p.tables e below (T624.setTop (mkF m 52 #[.val (.int p1), .val (.int p2), .val (.int (9 : Int32)), .val (.ref w_UNSUBSCRIBE), .val (.int p2), .val (.int (162 : Int32)), .unset] [(.int (9 : Int32))])) _
                        refine st626 _ ?_
                        show Steps p.tables e below (T626.setTop (mkF m 55 #[.val (.int p1), .val (.int p2), .val (.int (9 : Int32)), .val (.ref w_UNSUBSCRIBE), .val (.int p2), .val (.int (162 : Int32)), .unset] [(.int (162 : Int32))])) _
                        refine XS.istore X626.here hx rfl (hb hby at_55) rfl (l' := #[.val (.int p1), .val (.int p2), .val (.int (9 : Int32)), .val (.ref w_UNSUBSCRIBE), .val (.int p2), .val (.int (162 : Int32)), .val (.int (162 : Int32))]) rfl ?_
                        show Steps p.tables e below (T626.setTop (mkF m 57 #[.val (.int p1), .val (.int p2), .val (.int (9 : Int32)), .val (.ref w_UNSUBSCRIBE), .val (.int p2), .val (.int (162 : Int32)), .val (.int (162 : Int32))] [])) _
                        refine XS.iload X626.here hx rfl (hb hby at_57) rfl ?_
                        show Steps p.tables e below (T626.setTop (mkF m 59 #[.val (.int p1), .val (.int p2), .val (.int (9 : Int32)), .val (.ref w_UNSUBSCRIBE), .val (.int p2), .val (.int (162 : Int32)), .val (.int (162 : Int32))] [(.int (162 : Int32))])) _
                        refine XS.iload X626.here hx rfl (hb hby at_59) rfl ?_
                        show Steps p.tables e below (T626.setTop (mkF m 61 #[.val (.int p1), .val (.int p2), .val (.int (9 : Int32)), .val (.ref w_UNSUBSCRIBE), .val (.int p2), .val (.int (162 : Int32)), .val (.int (162 : Int32))] [(.int (162 : Int32)), (.int (162 : Int32))])) _
                        refine XS.icmpNo X626.here hx rfl (hb hby at_61) rfl (teq (by decide : (162 : Int32) = (162 : Int32))).2 ?_
                        show Steps p.tables e below (T626.setTop (mkF m 64 #[.val (.int p1), .val (.int p2), .val (.int (9 : Int32)), .val (.ref w_UNSUBSCRIBE), .val (.int p2), .val (.int (162 : Int32)), .val (.int (162 : Int32))] [])) _
                        refine XS.iload X626.here hx rfl (hb hby at_64) rfl ?_
                        show Steps p.tables e below (T626.setTop (mkF m 66 #[.val (.int p1), .val (.int p2), .val (.int (9 : Int32)), .val (.ref w_UNSUBSCRIBE), .val (.int p2), .val (.int (162 : Int32)), .val (.int (162 : Int32))] [(.int (162 : Int32))])) _
                        refine st628 _ ?_
                        show Steps p.tables e below (T628.setTop (mkF m 69 #[.val (.int p1), .val (.int p2), .val (.int (9 : Int32)), .val (.ref w_UNSUBSCRIBE), .val (.int p2), .val (.int (162 : Int32)), .val (.int (162 : Int32))] [(.ref w_UNSUBSCRIBE)])) _
                        refine XS.aloadN X628.here hx rfl (hb hby at_69) rfl rfl ?_
                        show Steps p.tables e below (T628.setTop (mkF m 70 #[.val (.int p1), .val (.int p2), .val (.int (9 : Int32)), .val (.ref w_UNSUBSCRIBE), .val (.int p2), .val (.int (162 : Int32)), .val (.int (162 : Int32))] [(.ref w_UNSUBSCRIBE), (.ref w_UNSUBSCRIBE)])) _
                        refine Jvm.RoadKit.acmp (g := (mkF m 70 #[.val (.int p1), .val (.int p2), .val (.int (9 : Int32)), .val (.ref w_UNSUBSCRIBE), .val (.int p2), .val (.int (162 : Int32)), .val (.int (162 : Int32))] [(.ref w_UNSUBSCRIBE), (.ref w_UNSUBSCRIBE)])) X628 hx rfl rfl rfl (pc0 := 70) (pc' := 73) (same := true) rfl (hb hby at_70) rfl (decide_eq_true rfl) (by decide) (by decide) ?_
                        show Steps p.tables e below (T628.setTop (mkF m 73 #[.val (.int p1), .val (.int p2), .val (.int (9 : Int32)), .val (.ref w_UNSUBSCRIBE), .val (.int p2), .val (.int (162 : Int32)), .val (.int (162 : Int32))] [])) _
                        refine XS.iconst X628.here hx rfl (hb hby at_73) ?_
                        show Steps p.tables e below (T628.setTop (mkF m 74 #[.val (.int p1), .val (.int p2), .val (.int (9 : Int32)), .val (.ref w_UNSUBSCRIBE), .val (.int p2), .val (.int (162 : Int32)), .val (.int (162 : Int32))] [(.int (1 : Int32))])) _
                        refine XS.goto X628.here hx rfl (pc0 := 74) (pc' := 78) rfl (hb hby at_74) (by decide) (by decide) ?_
                        show Steps p.tables e below (T628.setTop (mkF m 78 #[.val (.int p1), .val (.int p2), .val (.int (9 : Int32)), .val (.ref w_UNSUBSCRIBE), .val (.int p2), .val (.int (162 : Int32)), .val (.int (162 : Int32))] [(.int (1 : Int32))])) _
                        exact retN X628 hx (t := .boolean) Bd.returns (by simp) (hb hby at_78) hr
                      · show own_Q0 Z p1 p2 w_CONNECT w_CONNACK w_PUBLISH w_PUBACK w_PUBREC w_PUBREL w_PUBCOMP w_SUBSCRIBE w_SUBACK w_UNSUBSCRIBE w_UNSUBACK w_PINGREQ w_PINGRESP w_DISCONNECT k_w__VALUES w__VALUES h0 n0 _ T628.heap _
                        exact ⟨(by rw [own_f0, if_neg hc1, if_neg hc2, if_neg hc3, if_neg hc4, if_neg hc5, if_neg hc6, if_neg hc7, if_neg hc8, if_neg hc9, if_pos hc10]), N689⟩
                    ·
                      by_cases hc11 : ((p1 &&& (2147483647 : Int32)) - ((p1 &&& (2147483647 : Int32)) / (14 : Int32)) * (14 : Int32)) = (10 : Int32)
                      ·
                        have k690 : ∀ t, Steps p.tables e below (s₁.setTop (mkF m 7 #[.val (.int p1), .val (.int p2), .unset, .unset, .unset, .unset, .unset] [(.int (10 : Int32))])) t → Steps p.tables e below (s₁.setTop (entryFrame m #[(.int p1), (.int p2)] maxLocals)) t := by
                          intro t kt
                          refine k1 t ?_
                          rw [hc11]
                          exact kt
                        obtain ⟨v691, _, ⟨T691, L691, k691, n691⟩, -, X691, ⟨Lc691, hQ691, l691, y691, z691⟩, st691⟩ := Jvm.LawKit.callS X0 hx (y := (⟨"com/example/castd/castd/mqtt/PacketTypeFirstBytePinLaw", "type", "(I)Lcom/example/castd/castd/mqtt/PacketType;"⟩ : MethodName)) hown (mvT hZ (hw _ (List.mem_of_getElem? (i := 1) rfl))) (mvT hZ (hw _ (List.mem_of_getElem? (i := 2) rfl))) (mvT hZ (hw _ (List.mem_of_getElem? (i := 3) rfl))) (mvT hZ (hw _ (List.mem_of_getElem? (i := 4) rfl))) (by decide) (backOf (W := 0) (own_rm1 l Z a0 hw [] (10 : Int32) w_CONNECT w_CONNACK w_PUBLISH w_PUBACK w_PUBREC w_PUBREL w_PUBCOMP w_SUBSCRIBE w_SUBACK w_UNSUBSCRIBE w_UNSUBACK w_PINGREQ w_PINGRESP w_DISCONNECT h0 n0 Z0 S_CONNECT S_CONNACK S_PUBLISH S_PUBACK S_PUBREC S_PUBREL S_PUBCOMP S_SUBSCRIBE S_SUBACK S_UNSUBSCRIBE S_UNSUBACK S_PINGREQ S_PINGRESP S_DISCONNECT) hZ (hw _ (List.mem_of_getElem? (i := 4) rfl)) (hw _ (List.mem_of_getElem? (i := 3) rfl)) (by decide) (by decide)) (g := (mkF m 9 #[.val (.int p1), .val (.int p2), .val (.int (10 : Int32)), .unset, .unset, .unset, .unset] [(.int (10 : Int32))])) rfl (by rw [hml]; rfl) (argsL := [(.int (10 : Int32))]) (rest := []) (lenOf own_pd119 rfl) rfl (by show 2 * 0 + _ ≤ _; exact Nat.le_of_eq rfl) (hb hby at_9) (fun _ _ => ⟨rfl, e0, (by decide : 0 + 0 ≤ _), (by decide : 0 + 0 ≤ _)⟩)
                        dsimp only [Pt.U, Pt.locs, Pt.cells, Pt.slots] at X691 l691 y691 z691 st691 hQ691
                        subst l691 y691 z691
                        obtain ⟨hv691, N691q, e691⟩ := hQ691
                        have N692 := Fr.app N0 N691q
                        rw [show (own_f1 (10 : Int32) w_CONNECT w_CONNACK w_PUBLISH w_PUBACK w_PUBREC w_PUBREL w_PUBCOMP w_SUBSCRIBE w_SUBACK w_UNSUBSCRIBE w_UNSUBACK w_PINGREQ w_PINGRESP w_DISCONNECT) = w_UNSUBACK from by first | rfl | decide | simp [own_f1]] at hv691
                        subst hv691
                        obtain ⟨cq693, kq693, q693a, q693b, q693c⟩ := isOf hZ e691 E_w_UNSUBACK
                        obtain ⟨v693, _, ⟨T693, L693, k693, n693⟩, -, X693, ⟨Lc693, hQ693, l693, y693, z693⟩, st693⟩ := X691.virtualBack hx (y := (⟨"com/example/castd/castd/mqtt/PacketType", "firstByte", "(I)I"⟩ : MethodName)) (z := (⟨"com/example/castd/castd/mqtt/PacketType", "firstByte", "(I)I"⟩ : MethodName)) hown (mvT hZ (hw _ (List.mem_of_getElem? (i := 8) rfl))) (mvT hZ (hw _ (List.mem_of_getElem? (i := 9) rfl))) (notFace_of_selects (args := #[]) (mvT hZ (hw _ (List.mem_of_getElem? (i := 11) rfl)))) (mvT hZ (hw _ (List.mem_of_getElem? (i := 11) rfl))) (mvT hZ (hw _ (List.mem_of_getElem? (i := 10) rfl))) (by decide) (backOf (W := 0) (own_rm2 l Z a0 hw [] w_UNSUBACK p2 (0 : Int32) (11 : Int32) h0 n0 Z0 F_requiredFlags_w_UNSUBACK F_code_w_UNSUBACK) hZ (hw _ (List.mem_of_getElem? (i := 12) rfl)) (hw _ (List.mem_of_getElem? (i := 6) rfl)) (by decide) (by decide)) q693a q693c (g := (mkF m 31 #[.val (.int p1), .val (.int p2), .val (.int (10 : Int32)), .val (.ref w_UNSUBACK), .val (.int p2), .unset, .unset] [(.int p2), (.ref w_UNSUBACK)])) rfl (by rw [hml]; rfl) (Steps.refl _) (argsL := [(.int p2)]) (rest := []) (lenOf own_pd120 rfl) rfl (by show 2 * 0 + _ ≤ _; exact Nat.le_of_eq rfl) (hb hby at_31) (fun _ _ => ⟨rfl, e691, (by decide : 0 + 0 ≤ _), (by decide : 0 + 0 ≤ _)⟩)
                        dsimp only [Pt.U, Pt.locs, Pt.cells, Pt.slots] at X693 l693 y693 z693 st693 hQ693
                        subst l693 y693 z693
                        obtain ⟨hv693, N693q, e693⟩ := hQ693
                        have N694 := Fr.app N692 N693q
                        rw [show (own_f2 p2 (0 : Int32) (11 : Int32)) = (176 : Int32) from by first | rfl | decide | simp [own_f2]] at hv693
                        subst hv693
                        obtain ⟨v695, _, ⟨T695, L695, k695, n695⟩, -, X695, ⟨Lc695, hQ695, l695, y695, z695⟩, st695⟩ := Jvm.LawKit.callS X693 hx (y := (⟨"com/example/castd/castd/mqtt/PacketTypeFirstBytePinLaw", "fixed", "(I)I"⟩ : MethodName)) hown (mvT hZ (hw _ (List.mem_of_getElem? (i := 17) rfl))) (mvT hZ (hw _ (List.mem_of_getElem? (i := 18) rfl))) (mvT hZ (hw _ (List.mem_of_getElem? (i := 3) rfl))) (mvT hZ (hw _ (List.mem_of_getElem? (i := 19) rfl))) (by decide) (backOf (W := 0) (own_rm3 l Z a0 hw [] (10 : Int32) h0 n0 Z0) hZ (hw _ (List.mem_of_getElem? (i := 19) rfl)) (hw _ (List.mem_of_getElem? (i := 3) rfl)) (by decide) (by decide)) (g := (mkF m 52 #[.val (.int p1), .val (.int p2), .val (.int (10 : Int32)), .val (.ref w_UNSUBACK), .val (.int p2), .val (.int (176 : Int32)), .unset] [(.int (10 : Int32))])) rfl (by rw [hml]; rfl) (argsL := [(.int (10 : Int32))]) (rest := []) (lenOf own_pd120 rfl) rfl (by show 2 * 0 + _ ≤ _; exact Nat.le_of_eq rfl) (hb hby at_52) (fun _ _ => ⟨rfl, e693, (by decide : 0 + 0 ≤ _), (by decide : 0 + 0 ≤ _)⟩)
                        dsimp only [Pt.U, Pt.locs, Pt.cells, Pt.slots] at X695 l695 y695 z695 st695 hQ695
                        subst l695 y695 z695
                        obtain ⟨hv695, N695q, e695⟩ := hQ695
                        have N696 := Fr.app N694 N695q
                        rw [show (own_f3 (10 : Int32)) = (176 : Int32) from by first | rfl | decide | simp [own_f3]] at hv695
                        subst hv695
                        obtain ⟨v697, _, ⟨T697, L697, k697, n697⟩, -, X697, ⟨Lc697, hQ697, l697, y697, z697⟩, st697⟩ := Jvm.LawKit.callS X695 hx (y := (⟨"com/example/castd/castd/mqtt/PacketType", "fromFirstByte", "(I)Lcom/example/castd/castd/mqtt/PacketType;"⟩ : MethodName)) hown (mvT hZ (hw _ (List.mem_of_getElem? (i := 20) rfl))) (mvT hZ (hw _ (List.mem_of_getElem? (i := 21) rfl))) (mvT hZ (hw _ (List.mem_of_getElem? (i := 6) rfl))) (mvT hZ (hw _ (List.mem_of_getElem? (i := 22) rfl))) (by decide) (backOf (W := 0) (own_v176_rm4 l Z a0 hw [] w_CONNECT w_DISCONNECT k_w__VALUES w_CONNACK w_PUBLISH w_PUBACK w_PUBREC w_PUBREL w_PUBCOMP w_SUBSCRIBE w_SUBACK w_UNSUBSCRIBE w_UNSUBACK w_PINGREQ w_PINGRESP w__VALUES h0 n0 Z0 S_CONNECT F_code_w_CONNECT S_DISCONNECT F_code_w_DISCONNECT V_w__VALUES S__VALUES E_w__VALUES F_requiredFlags_w_UNSUBACK) hZ (hw _ (List.mem_of_getElem? (i := 22) rfl)) (hw _ (List.mem_of_getElem? (i := 6) rfl)) (by decide) (by decide)) (g := (mkF m 66 #[.val (.int p1), .val (.int p2), .val (.int (10 : Int32)), .val (.ref w_UNSUBACK), .val (.int p2), .val (.int (176 : Int32)), .val (.int (176 : Int32))] [(.int (176 : Int32))])) rfl (by rw [hml]; rfl) (argsL := [(.int (176 : Int32))]) (rest := []) (lenOf own_pd119 rfl) rfl (by show 2 * 0 + _ ≤ _; exact Nat.le_of_eq rfl) (hb hby at_66) (fun _ _ => ⟨rfl, e695, (by decide : 0 + 1 ≤ _), (by decide : 0 + 14 ≤ _)⟩)
                        dsimp only [Pt.U, Pt.locs, Pt.cells, Pt.slots] at X697 l697 y697 z697 st697 hQ697
                        subst l697 y697 z697
                        obtain ⟨hv697, N697q, K697⟩ := hQ697
                        have f698 := own_staKeep S_CONNECT K697
                        have f699 := own_staKeep S_CONNACK K697
                        have f700 := own_staKeep S_PUBLISH K697
                        have f701 := own_staKeep S_PUBACK K697
                        have f702 := own_staKeep S_PUBREC K697
                        have f703 := own_staKeep S_PUBREL K697
                        have f704 := own_staKeep S_PUBCOMP K697
                        have f705 := own_staKeep S_SUBSCRIBE K697
                        have f706 := own_staKeep S_SUBACK K697
                        have f707 := own_staKeep S_UNSUBSCRIBE K697
                        have f708 := own_staKeep S_UNSUBACK K697
                        have f709 := own_staKeep S_PINGREQ K697
                        have f710 := own_staKeep S_PINGRESP K697
                        have f711 := own_staKeep S_DISCONNECT K697
                        have f712 := F_requiredFlags_w_CONNECT.keep K697 nin0
                        have f713 := F_code_w_CONNECT.keep K697 nin0
                        have f714 := E_w_CONNECT.keep K697
                        have f715 := F_code_w_DISCONNECT.keep K697 nin0
                        have f716 := V_w__VALUES.keep K697 nin0
                        have f717 := own_staKeep S__VALUES K697
                        have f718 := E_w__VALUES.keep K697
                        have f719 := F_requiredFlags_w_CONNACK.keep K697 nin0
                        have f720 := F_code_w_CONNACK.keep K697 nin0
                        have f721 := E_w_CONNACK.keep K697
                        have f722 := F_requiredFlags_w_PUBLISH.keep K697 nin0
                        have f723 := F_code_w_PUBLISH.keep K697 nin0
                        have f724 := E_w_PUBLISH.keep K697
                        have f725 := F_requiredFlags_w_PUBACK.keep K697 nin0
                        have f726 := F_code_w_PUBACK.keep K697 nin0
                        have f727 := E_w_PUBACK.keep K697
                        have f728 := F_requiredFlags_w_PUBREC.keep K697 nin0
                        have f729 := F_code_w_PUBREC.keep K697 nin0
                        have f730 := E_w_PUBREC.keep K697
                        have f731 := F_requiredFlags_w_PUBREL.keep K697 nin0
                        have f732 := F_code_w_PUBREL.keep K697 nin0
                        have f733 := E_w_PUBREL.keep K697
                        have f734 := F_requiredFlags_w_PUBCOMP.keep K697 nin0
                        have f735 := F_code_w_PUBCOMP.keep K697 nin0
                        have f736 := E_w_PUBCOMP.keep K697
                        have f737 := F_requiredFlags_w_SUBSCRIBE.keep K697 nin0
                        have f738 := F_code_w_SUBSCRIBE.keep K697 nin0
                        have f739 := E_w_SUBSCRIBE.keep K697
                        have f740 := F_requiredFlags_w_SUBACK.keep K697 nin0
                        have f741 := F_code_w_SUBACK.keep K697 nin0
                        have f742 := E_w_SUBACK.keep K697
                        have f743 := F_requiredFlags_w_UNSUBSCRIBE.keep K697 nin0
                        have f744 := F_code_w_UNSUBSCRIBE.keep K697 nin0
                        have f745 := E_w_UNSUBSCRIBE.keep K697
                        have f746 := F_requiredFlags_w_UNSUBACK.keep K697 nin0
                        have f747 := F_code_w_UNSUBACK.keep K697 nin0
                        have f748 := E_w_UNSUBACK.keep K697
                        have f749 := F_requiredFlags_w_PINGREQ.keep K697 nin0
                        have f750 := F_code_w_PINGREQ.keep K697 nin0
                        have f751 := E_w_PINGREQ.keep K697
                        have f752 := F_requiredFlags_w_PINGRESP.keep K697 nin0
                        have f753 := F_code_w_PINGRESP.keep K697 nin0
                        have f754 := E_w_PINGRESP.keep K697
                        have f755 := F_requiredFlags_w_DISCONNECT.keep K697 nin0
                        have f756 := E_w_DISCONNECT.keep K697
                        have Z757 := Nat.le_trans Z0 K697.1
                        have N758 := Fr.app N696 N697q
                        rw [show (own_v176_f4 w_UNSUBACK) = w_UNSUBACK from by first | rfl | decide | simp [own_v176_f4]] at hv697
                        subst hv697
                        obtain ⟨fs, hr, hrun, hended, hW, hsame⟩ := X697.leave (v := some (.int (1 : Int32))) (fun h => by rw [Bd.returns] at h; cases h)
                        refine ⟨_, _, k690 _ ?_, hrun, hended, _, _, rfl, ?_, ⟨_, rfl⟩, hW, hsame.mono (by decide) (by decide)⟩
                        · show Steps p.tables e below (s₁.setTop (mkF m 7 #[.val (.int p1), .val (.int p2), .unset, .unset, .unset, .unset, .unset] [(.int (10 : Int32))])) _
                          refine XS.istoreN X0.here hx rfl (hb hby at_7) rfl (l' := #[.val (.int p1), .val (.int p2), .val (.int (10 : Int32)), .unset, .unset, .unset, .unset]) rfl ?_
                          show Steps p.tables e below (s₁.setTop (mkF m 8 #[.val (.int p1), .val (.int p2), .val (.int (10 : Int32)), .unset, .unset, .unset, .unset] [])) _
                          refine XS.iloadN X0.here hx rfl (hb hby at_8) rfl ?_
                          show Steps p.tables e below (s₁.setTop (mkF m 9 #[.val (.int p1), .val (.int p2), .val (.int (10 : Int32)), .unset, .unset, .unset, .unset] [(.int (10 : Int32))])) _
                          refine st691 _ ?_
                          show Steps p.tables e below (T691.setTop (mkF m 12 #[.val (.int p1), .val (.int p2), .val (.int (10 : Int32)), .unset, .unset, .unset, .unset] [(.ref w_UNSUBACK)])) _
                          refine XS.astoreN X691.here hx rfl (hb hby at_12) rfl rfl (l' := #[.val (.int p1), .val (.int p2), .val (.int (10 : Int32)), .val (.ref w_UNSUBACK), .unset, .unset, .unset]) rfl ?_
                          show Steps p.tables e below (T691.setTop (mkF m 13 #[.val (.int p1), .val (.int p2), .val (.int (10 : Int32)), .val (.ref w_UNSUBACK), .unset, .unset, .unset] [])) _
                          refine XS.iloadN X691.here hx rfl (hb hby at_13) rfl ?_
                          show Steps p.tables e below (T691.setTop (mkF m 14 #[.val (.int p1), .val (.int p2), .val (.int (10 : Int32)), .val (.ref w_UNSUBACK), .unset, .unset, .unset] [(.int (10 : Int32))])) _
                          refine XS.iconst X691.here hx rfl (hb hby at_14) ?_
                          show Steps p.tables e below (T691.setTop (mkF m 15 #[.val (.int p1), .val (.int p2), .val (.int (10 : Int32)), .val (.ref w_UNSUBACK), .unset, .unset, .unset] [(.int (2 : Int32)), (.int (10 : Int32))])) _
                          refine XS.icmpYes X691.here hx rfl (pc0 := 15) (pc' := 25) rfl (hb hby at_15) rfl (feq (by decide : ¬ ((10 : Int32) = (2 : Int32)))).2 (by decide) (by decide) ?_
                          show Steps p.tables e below (T691.setTop (mkF m 25 #[.val (.int p1), .val (.int p2), .val (.int (10 : Int32)), .val (.ref w_UNSUBACK), .unset, .unset, .unset] [])) _
                          refine XS.iloadN X691.here hx rfl (hb hby at_25) rfl ?_
                          show Steps p.tables e below (T691.setTop (mkF m 26 #[.val (.int p1), .val (.int p2), .val (.int (10 : Int32)), .val (.ref w_UNSUBACK), .unset, .unset, .unset] [(.int p2)])) _
                          refine XS.istore X691.here hx rfl (hb hby at_26) rfl (l' := #[.val (.int p1), .val (.int p2), .val (.int (10 : Int32)), .val (.ref w_UNSUBACK), .val (.int p2), .unset, .unset]) rfl ?_
                          show Steps p.tables e below (T691.setTop (mkF m 28 #[.val (.int p1), .val (.int p2), .val (.int (10 : Int32)), .val (.ref w_UNSUBACK), .val (.int p2), .unset, .unset] [])) _
                          refine XS.aloadN X691.here hx rfl (hb hby at_28) rfl rfl ?_
                          show Steps p.tables e below (T691.setTop (mkF m 29 #[.val (.int p1), .val (.int p2), .val (.int (10 : Int32)), .val (.ref w_UNSUBACK), .val (.int p2), .unset, .unset] [(.ref w_UNSUBACK)])) _
                          refine XS.iload X691.here hx rfl (hb hby at_29) rfl ?_
                          show Steps p.tables e below (T691.setTop (mkF m 31 #[.val (.int p1), .val (.int p2), .val (.int (10 : Int32)), .val (.ref w_UNSUBACK), .val (.int p2), .unset, .unset] [(.int p2), (.ref w_UNSUBACK)])) _
                          refine st693.trans ?_
                          show Steps p.tables e below (T693.setTop (mkF m 34 #[.val (.int p1), .val (.int p2), .val (.int (10 : Int32)), .val (.ref w_UNSUBACK), .val (.int p2), .unset, .unset] [(.int (176 : Int32))])) _
                          refine XS.istore X693.here hx rfl (hb hby at_34) rfl (l' := #[.val (.int p1), .val (.int p2), .val (.int (10 : Int32)), .val (.ref w_UNSUBACK), .val (.int p2), .val (.int (176 : Int32)), .unset]) rfl ?_
                          show Steps p.tables e below (T693.setTop (mkF m 36 #[.val (.int p1), .val (.int p2), .val (.int (10 : Int32)), .val (.ref w_UNSUBACK), .val (.int p2), .val (.int (176 : Int32)), .unset] [])) _
                          refine XS.iloadN X693.here hx rfl (hb hby at_36) rfl ?_
                          show Steps p.tables e below (T693.setTop (mkF m 37 #[.val (.int p1), .val (.int p2), .val (.int (10 : Int32)), .val (.ref w_UNSUBACK), .val (.int p2), .val (.int (176 : Int32)), .unset] [(.int (10 : Int32))])) _
                          refine XS.iconst X693.here hx rfl (hb hby at_37) ?_
                          show Steps p.tables e below (T693.setTop (mkF m 38 #[.val (.int p1), .val (.int p2), .val (.int (10 : Int32)), .val (.ref w_UNSUBACK), .val (.int p2), .val (.int (176 : Int32)), .unset] [(.int (2 : Int32)), (.int (10 : Int32))])) _
                          refine XS.icmpYes X693.here hx rfl (pc0 := 38) (pc' := 51) rfl (hb hby at_38) rfl (feq (by decide : ¬ ((10 : Int32) = (2 : Int32)))).2 (by decide) (by decide) ?_
                          show Steps p.tables e below (T693.setTop (mkF m 51 #[.val (.int p1), .val (.int p2), .val (.int (10 : Int32)), .val (.ref w_UNSUBACK), .val (.int p2), .val (.int (176 : Int32)), .unset] [])) _
                          refine XS.iloadN X693.here hx rfl (hb hby at_51) rfl ?_
                          show Steps p.tables e below (T693.setTop (mkF m 52 #[.val (.int p1), .val (.int p2), .val (.int (10 : Int32)), .val (.ref w_UNSUBACK), .val (.int p2), .val (.int (176 : Int32)), .unset] [(.int (10 : Int32))])) _
                          refine st695 _ ?_
                          show Steps p.tables e below (T695.setTop (mkF m 55 #[.val (.int p1), .val (.int p2), .val (.int (10 : Int32)), .val (.ref w_UNSUBACK), .val (.int p2), .val (.int (176 : Int32)), .unset] [(.int (176 : Int32))])) _
                          refine XS.istore X695.here hx rfl (hb hby at_55) rfl (l' := #[.val (.int p1), .val (.int p2), .val (.int (10 : Int32)), .val (.ref w_UNSUBACK), .val (.int p2), .val (.int (176 : Int32)), .val (.int (176 : Int32))]) rfl ?_
                          show Steps p.tables e below (T695.setTop (mkF m 57 #[.val (.int p1), .val (.int p2), .val (.int (10 : Int32)), .val (.ref w_UNSUBACK), .val (.int p2), .val (.int (176 : Int32)), .val (.int (176 : Int32))] [])) _
                          refine XS.iload X695.here hx rfl (hb hby at_57) rfl ?_
                          show Steps p.tables e below (T695.setTop (mkF m 59 #[.val (.int p1), .val (.int p2), .val (.int (10 : Int32)), .val (.ref w_UNSUBACK), .val (.int p2), .val (.int (176 : Int32)), .val (.int (176 : Int32))] [(.int (176 : Int32))])) _
                          refine XS.iload X695.here hx rfl (hb hby at_59) rfl ?_
                          show Steps p.tables e below (T695.setTop (mkF m 61 #[.val (.int p1), .val (.int p2), .val (.int (10 : Int32)), .val (.ref w_UNSUBACK), .val (.int p2), .val (.int (176 : Int32)), .val (.int (176 : Int32))] [(.int (176 : Int32)), (.int (176 : Int32))])) _
                          refine XS.icmpNo X695.here hx rfl (hb hby at_61) rfl (teq (by decide : (176 : Int32) = (176 : Int32))).2 ?_
                          show Steps p.tables e below (T695.setTop (mkF m 64 #[.val (.int p1), .val (.int p2), .val (.int (10 : Int32)), .val (.ref w_UNSUBACK), .val (.int p2), .val (.int (176 : Int32)), .val (.int (176 : Int32))] [])) _
                          refine XS.iload X695.here hx rfl (hb hby at_64) rfl ?_
                          show Steps p.tables e below (T695.setTop (mkF m 66 #[.val (.int p1), .val (.int p2), .val (.int (10 : Int32)), .val (.ref w_UNSUBACK), .val (.int p2), .val (.int (176 : Int32)), .val (.int (176 : Int32))] [(.int (176 : Int32))])) _
                          refine st697 _ ?_
                          show Steps p.tables e below (T697.setTop (mkF m 69 #[.val (.int p1), .val (.int p2), .val (.int (10 : Int32)), .val (.ref w_UNSUBACK), .val (.int p2), .val (.int (176 : Int32)), .val (.int (176 : Int32))] [(.ref w_UNSUBACK)])) _
                          refine XS.aloadN X697.here hx rfl (hb hby at_69) rfl rfl ?_
                          show Steps p.tables e below (T697.setTop (mkF m 70 #[.val (.int p1), .val (.int p2), .val (.int (10 : Int32)), .val (.ref w_UNSUBACK), .val (.int p2), .val (.int (176 : Int32)), .val (.int (176 : Int32))] [(.ref w_UNSUBACK), (.ref w_UNSUBACK)])) _
                          refine Jvm.RoadKit.acmp (g := (mkF m 70 #[.val (.int p1), .val (.int p2), .val (.int (10 : Int32)), .val (.ref w_UNSUBACK), .val (.int p2), .val (.int (176 : Int32)), .val (.int (176 : Int32))] [(.ref w_UNSUBACK), (.ref w_UNSUBACK)])) X697 hx rfl rfl rfl (pc0 := 70) (pc' := 73) (same := true) rfl (hb hby at_70) rfl (decide_eq_true rfl) (by decide) (by decide) ?_
                          show Steps p.tables e below (T697.setTop (mkF m 73 #[.val (.int p1), .val (.int p2), .val (.int (10 : Int32)), .val (.ref w_UNSUBACK), .val (.int p2), .val (.int (176 : Int32)), .val (.int (176 : Int32))] [])) _
                          refine XS.iconst X697.here hx rfl (hb hby at_73) ?_
                          show Steps p.tables e below (T697.setTop (mkF m 74 #[.val (.int p1), .val (.int p2), .val (.int (10 : Int32)), .val (.ref w_UNSUBACK), .val (.int p2), .val (.int (176 : Int32)), .val (.int (176 : Int32))] [(.int (1 : Int32))])) _
                          refine XS.goto X697.here hx rfl (pc0 := 74) (pc' := 78) rfl (hb hby at_74) (by decide) (by decide) ?_
                          show Steps p.tables e below (T697.setTop (mkF m 78 #[.val (.int p1), .val (.int p2), .val (.int (10 : Int32)), .val (.ref w_UNSUBACK), .val (.int p2), .val (.int (176 : Int32)), .val (.int (176 : Int32))] [(.int (1 : Int32))])) _
                          exact retN X697 hx (t := .boolean) Bd.returns (by simp) (hb hby at_78) hr
                        · show own_Q0 Z p1 p2 w_CONNECT w_CONNACK w_PUBLISH w_PUBACK w_PUBREC w_PUBREL w_PUBCOMP w_SUBSCRIBE w_SUBACK w_UNSUBSCRIBE w_UNSUBACK w_PINGREQ w_PINGRESP w_DISCONNECT k_w__VALUES w__VALUES h0 n0 _ T697.heap _
                          exact ⟨(by rw [own_f0, if_neg hc1, if_neg hc2, if_neg hc3, if_neg hc4, if_neg hc5, if_neg hc6, if_neg hc7, if_neg hc8, if_neg hc9, if_neg hc10, if_pos hc11]), N758⟩
                      ·
                        by_cases hc12 : ((p1 &&& (2147483647 : Int32)) - ((p1 &&& (2147483647 : Int32)) / (14 : Int32)) * (14 : Int32)) = (11 : Int32)
                        ·
                          have k759 : ∀ t, Steps p.tables e below (s₁.setTop (mkF m 7 #[.val (.int p1), .val (.int p2), .unset, .unset, .unset, .unset, .unset] [(.int (11 : Int32))])) t → Steps p.tables e below (s₁.setTop (entryFrame m #[(.int p1), (.int p2)] maxLocals)) t := by
                            intro t kt
                            refine k1 t ?_
                            rw [hc12]
                            exact kt
                          obtain ⟨v760, _, ⟨T760, L760, k760, n760⟩, -, X760, ⟨Lc760, hQ760, l760, y760, z760⟩, st760⟩ := Jvm.LawKit.callS X0 hx (y := (⟨"com/example/castd/castd/mqtt/PacketTypeFirstBytePinLaw", "type", "(I)Lcom/example/castd/castd/mqtt/PacketType;"⟩ : MethodName)) hown (mvT hZ (hw _ (List.mem_of_getElem? (i := 1) rfl))) (mvT hZ (hw _ (List.mem_of_getElem? (i := 2) rfl))) (mvT hZ (hw _ (List.mem_of_getElem? (i := 3) rfl))) (mvT hZ (hw _ (List.mem_of_getElem? (i := 4) rfl))) (by decide) (backOf (W := 0) (own_rm1 l Z a0 hw [] (11 : Int32) w_CONNECT w_CONNACK w_PUBLISH w_PUBACK w_PUBREC w_PUBREL w_PUBCOMP w_SUBSCRIBE w_SUBACK w_UNSUBSCRIBE w_UNSUBACK w_PINGREQ w_PINGRESP w_DISCONNECT h0 n0 Z0 S_CONNECT S_CONNACK S_PUBLISH S_PUBACK S_PUBREC S_PUBREL S_PUBCOMP S_SUBSCRIBE S_SUBACK S_UNSUBSCRIBE S_UNSUBACK S_PINGREQ S_PINGRESP S_DISCONNECT) hZ (hw _ (List.mem_of_getElem? (i := 4) rfl)) (hw _ (List.mem_of_getElem? (i := 3) rfl)) (by decide) (by decide)) (g := (mkF m 9 #[.val (.int p1), .val (.int p2), .val (.int (11 : Int32)), .unset, .unset, .unset, .unset] [(.int (11 : Int32))])) rfl (by rw [hml]; rfl) (argsL := [(.int (11 : Int32))]) (rest := []) (lenOf own_pd119 rfl) rfl (by show 2 * 0 + _ ≤ _; exact Nat.le_of_eq rfl) (hb hby at_9) (fun _ _ => ⟨rfl, e0, (by decide : 0 + 0 ≤ _), (by decide : 0 + 0 ≤ _)⟩)
                          dsimp only [Pt.U, Pt.locs, Pt.cells, Pt.slots] at X760 l760 y760 z760 st760 hQ760
                          subst l760 y760 z760
                          obtain ⟨hv760, N760q, e760⟩ := hQ760
                          have N761 := Fr.app N0 N760q
                          rw [show (own_f1 (11 : Int32) w_CONNECT w_CONNACK w_PUBLISH w_PUBACK w_PUBREC w_PUBREL w_PUBCOMP w_SUBSCRIBE w_SUBACK w_UNSUBSCRIBE w_UNSUBACK w_PINGREQ w_PINGRESP w_DISCONNECT) = w_PINGREQ from by first | rfl | decide | simp [own_f1]] at hv760
                          subst hv760
                          obtain ⟨cq762, kq762, q762a, q762b, q762c⟩ := isOf hZ e760 E_w_PINGREQ
                          obtain ⟨v762, _, ⟨T762, L762, k762, n762⟩, -, X762, ⟨Lc762, hQ762, l762, y762, z762⟩, st762⟩ := X760.virtualBack hx (y := (⟨"com/example/castd/castd/mqtt/PacketType", "firstByte", "(I)I"⟩ : MethodName)) (z := (⟨"com/example/castd/castd/mqtt/PacketType", "firstByte", "(I)I"⟩ : MethodName)) hown (mvT hZ (hw _ (List.mem_of_getElem? (i := 8) rfl))) (mvT hZ (hw _ (List.mem_of_getElem? (i := 9) rfl))) (notFace_of_selects (args := #[]) (mvT hZ (hw _ (List.mem_of_getElem? (i := 11) rfl)))) (mvT hZ (hw _ (List.mem_of_getElem? (i := 11) rfl))) (mvT hZ (hw _ (List.mem_of_getElem? (i := 10) rfl))) (by decide) (backOf (W := 0) (own_rm2 l Z a0 hw [] w_PINGREQ p2 (0 : Int32) (12 : Int32) h0 n0 Z0 F_requiredFlags_w_PINGREQ F_code_w_PINGREQ) hZ (hw _ (List.mem_of_getElem? (i := 12) rfl)) (hw _ (List.mem_of_getElem? (i := 6) rfl)) (by decide) (by decide)) q762a q762c (g := (mkF m 31 #[.val (.int p1), .val (.int p2), .val (.int (11 : Int32)), .val (.ref w_PINGREQ), .val (.int p2), .unset, .unset] [(.int p2), (.ref w_PINGREQ)])) rfl (by rw [hml]; rfl) (Steps.refl _) (argsL := [(.int p2)]) (rest := []) (lenOf own_pd120 rfl) rfl (by show 2 * 0 + _ ≤ _; exact Nat.le_of_eq rfl) (hb hby at_31) (fun _ _ => ⟨rfl, e760, (by decide : 0 + 0 ≤ _), (by decide : 0 + 0 ≤ _)⟩)
                          dsimp only [Pt.U, Pt.locs, Pt.cells, Pt.slots] at X762 l762 y762 z762 st762 hQ762
                          subst l762 y762 z762
                          obtain ⟨hv762, N762q, e762⟩ := hQ762
                          have N763 := Fr.app N761 N762q
                          rw [show (own_f2 p2 (0 : Int32) (12 : Int32)) = (192 : Int32) from by first | rfl | decide | simp [own_f2]] at hv762
                          subst hv762
                          obtain ⟨v764, _, ⟨T764, L764, k764, n764⟩, -, X764, ⟨Lc764, hQ764, l764, y764, z764⟩, st764⟩ := Jvm.LawKit.callS X762 hx (y := (⟨"com/example/castd/castd/mqtt/PacketTypeFirstBytePinLaw", "fixed", "(I)I"⟩ : MethodName)) hown (mvT hZ (hw _ (List.mem_of_getElem? (i := 17) rfl))) (mvT hZ (hw _ (List.mem_of_getElem? (i := 18) rfl))) (mvT hZ (hw _ (List.mem_of_getElem? (i := 3) rfl))) (mvT hZ (hw _ (List.mem_of_getElem? (i := 19) rfl))) (by decide) (backOf (W := 0) (own_rm3 l Z a0 hw [] (11 : Int32) h0 n0 Z0) hZ (hw _ (List.mem_of_getElem? (i := 19) rfl)) (hw _ (List.mem_of_getElem? (i := 3) rfl)) (by decide) (by decide)) (g := (mkF m 52 #[.val (.int p1), .val (.int p2), .val (.int (11 : Int32)), .val (.ref w_PINGREQ), .val (.int p2), .val (.int (192 : Int32)), .unset] [(.int (11 : Int32))])) rfl (by rw [hml]; rfl) (argsL := [(.int (11 : Int32))]) (rest := []) (lenOf own_pd120 rfl) rfl (by show 2 * 0 + _ ≤ _; exact Nat.le_of_eq rfl) (hb hby at_52) (fun _ _ => ⟨rfl, e762, (by decide : 0 + 0 ≤ _), (by decide : 0 + 0 ≤ _)⟩)
                          dsimp only [Pt.U, Pt.locs, Pt.cells, Pt.slots] at X764 l764 y764 z764 st764 hQ764
                          subst l764 y764 z764
                          obtain ⟨hv764, N764q, e764⟩ := hQ764
                          have N765 := Fr.app N763 N764q
                          rw [show (own_f3 (11 : Int32)) = (192 : Int32) from by first | rfl | decide | simp [own_f3]] at hv764
                          subst hv764
                          obtain ⟨v766, _, ⟨T766, L766, k766, n766⟩, -, X766, ⟨Lc766, hQ766, l766, y766, z766⟩, st766⟩ := Jvm.LawKit.callS X764 hx (y := (⟨"com/example/castd/castd/mqtt/PacketType", "fromFirstByte", "(I)Lcom/example/castd/castd/mqtt/PacketType;"⟩ : MethodName)) hown (mvT hZ (hw _ (List.mem_of_getElem? (i := 20) rfl))) (mvT hZ (hw _ (List.mem_of_getElem? (i := 21) rfl))) (mvT hZ (hw _ (List.mem_of_getElem? (i := 6) rfl))) (mvT hZ (hw _ (List.mem_of_getElem? (i := 22) rfl))) (by decide) (backOf (W := 0) (own_v192_rm4 l Z a0 hw [] w_CONNECT w_DISCONNECT k_w__VALUES w_CONNACK w_PUBLISH w_PUBACK w_PUBREC w_PUBREL w_PUBCOMP w_SUBSCRIBE w_SUBACK w_UNSUBSCRIBE w_UNSUBACK w_PINGREQ w_PINGRESP w__VALUES h0 n0 Z0 S_CONNECT F_code_w_CONNECT S_DISCONNECT F_code_w_DISCONNECT V_w__VALUES S__VALUES E_w__VALUES F_requiredFlags_w_PINGREQ) hZ (hw _ (List.mem_of_getElem? (i := 22) rfl)) (hw _ (List.mem_of_getElem? (i := 6) rfl)) (by decide) (by decide)) (g := (mkF m 66 #[.val (.int p1), .val (.int p2), .val (.int (11 : Int32)), .val (.ref w_PINGREQ), .val (.int p2), .val (.int (192 : Int32)), .val (.int (192 : Int32))] [(.int (192 : Int32))])) rfl (by rw [hml]; rfl) (argsL := [(.int (192 : Int32))]) (rest := []) (lenOf own_pd119 rfl) rfl (by show 2 * 0 + _ ≤ _; exact Nat.le_of_eq rfl) (hb hby at_66) (fun _ _ => ⟨rfl, e764, (by decide : 0 + 1 ≤ _), (by decide : 0 + 14 ≤ _)⟩)
                          dsimp only [Pt.U, Pt.locs, Pt.cells, Pt.slots] at X766 l766 y766 z766 st766 hQ766
                          subst l766 y766 z766
                          obtain ⟨hv766, N766q, K766⟩ := hQ766
                          have f767 := own_staKeep S_CONNECT K766
                          have f768 := own_staKeep S_CONNACK K766
                          have f769 := own_staKeep S_PUBLISH K766
                          have f770 := own_staKeep S_PUBACK K766
                          have f771 := own_staKeep S_PUBREC K766
                          have f772 := own_staKeep S_PUBREL K766
                          have f773 := own_staKeep S_PUBCOMP K766
                          have f774 := own_staKeep S_SUBSCRIBE K766
                          have f775 := own_staKeep S_SUBACK K766
                          have f776 := own_staKeep S_UNSUBSCRIBE K766
                          have f777 := own_staKeep S_UNSUBACK K766
                          have f778 := own_staKeep S_PINGREQ K766
                          have f779 := own_staKeep S_PINGRESP K766
                          have f780 := own_staKeep S_DISCONNECT K766
                          have f781 := F_requiredFlags_w_CONNECT.keep K766 nin0
                          have f782 := F_code_w_CONNECT.keep K766 nin0
                          have f783 := E_w_CONNECT.keep K766
                          have f784 := F_code_w_DISCONNECT.keep K766 nin0
                          have f785 := V_w__VALUES.keep K766 nin0
                          have f786 := own_staKeep S__VALUES K766
                          have f787 := E_w__VALUES.keep K766
                          have f788 := F_requiredFlags_w_CONNACK.keep K766 nin0
                          have f789 := F_code_w_CONNACK.keep K766 nin0
                          have f790 := E_w_CONNACK.keep K766
                          have f791 := F_requiredFlags_w_PUBLISH.keep K766 nin0
                          have f792 := F_code_w_PUBLISH.keep K766 nin0
                          have f793 := E_w_PUBLISH.keep K766
                          have f794 := F_requiredFlags_w_PUBACK.keep K766 nin0
                          have f795 := F_code_w_PUBACK.keep K766 nin0
                          have f796 := E_w_PUBACK.keep K766
                          have f797 := F_requiredFlags_w_PUBREC.keep K766 nin0
                          have f798 := F_code_w_PUBREC.keep K766 nin0
                          have f799 := E_w_PUBREC.keep K766
                          have f800 := F_requiredFlags_w_PUBREL.keep K766 nin0
                          have f801 := F_code_w_PUBREL.keep K766 nin0
                          have f802 := E_w_PUBREL.keep K766
                          have f803 := F_requiredFlags_w_PUBCOMP.keep K766 nin0
                          have f804 := F_code_w_PUBCOMP.keep K766 nin0
                          have f805 := E_w_PUBCOMP.keep K766
                          have f806 := F_requiredFlags_w_SUBSCRIBE.keep K766 nin0
                          have f807 := F_code_w_SUBSCRIBE.keep K766 nin0
                          have f808 := E_w_SUBSCRIBE.keep K766
                          have f809 := F_requiredFlags_w_SUBACK.keep K766 nin0
                          have f810 := F_code_w_SUBACK.keep K766 nin0
                          have f811 := E_w_SUBACK.keep K766
                          have f812 := F_requiredFlags_w_UNSUBSCRIBE.keep K766 nin0
                          have f813 := F_code_w_UNSUBSCRIBE.keep K766 nin0
                          have f814 := E_w_UNSUBSCRIBE.keep K766
                          have f815 := F_requiredFlags_w_UNSUBACK.keep K766 nin0
                          have f816 := F_code_w_UNSUBACK.keep K766 nin0
                          have f817 := E_w_UNSUBACK.keep K766
                          have f818 := F_requiredFlags_w_PINGREQ.keep K766 nin0
                          have f819 := F_code_w_PINGREQ.keep K766 nin0
                          have f820 := E_w_PINGREQ.keep K766
                          have f821 := F_requiredFlags_w_PINGRESP.keep K766 nin0
                          have f822 := F_code_w_PINGRESP.keep K766 nin0
                          have f823 := E_w_PINGRESP.keep K766
                          have f824 := F_requiredFlags_w_DISCONNECT.keep K766 nin0
                          have f825 := E_w_DISCONNECT.keep K766
                          have Z826 := Nat.le_trans Z0 K766.1
                          have N827 := Fr.app N765 N766q
                          rw [show (own_v192_f4 w_PINGREQ) = w_PINGREQ from by first | rfl | decide | simp [own_v192_f4]] at hv766
                          subst hv766
                          obtain ⟨fs, hr, hrun, hended, hW, hsame⟩ := X766.leave (v := some (.int (1 : Int32))) (fun h => by rw [Bd.returns] at h; cases h)
                          refine ⟨_, _, k759 _ ?_, hrun, hended, _, _, rfl, ?_, ⟨_, rfl⟩, hW, hsame.mono (by decide) (by decide)⟩
                          · show Steps p.tables e below (s₁.setTop (mkF m 7 #[.val (.int p1), .val (.int p2), .unset, .unset, .unset, .unset, .unset] [(.int (11 : Int32))])) _
                            refine XS.istoreN X0.here hx rfl (hb hby at_7) rfl (l' := #[.val (.int p1), .val (.int p2), .val (.int (11 : Int32)), .unset, .unset, .unset, .unset]) rfl ?_
                            show Steps p.tables e below (s₁.setTop (mkF m 8 #[.val (.int p1), .val (.int p2), .val (.int (11 : Int32)), .unset, .unset, .unset, .unset] [])) _
                            refine XS.iloadN X0.here hx rfl (hb hby at_8) rfl ?_
                            show Steps p.tables e below (s₁.setTop (mkF m 9 #[.val (.int p1), .val (.int p2), .val (.int (11 : Int32)), .unset, .unset, .unset, .unset] [(.int (11 : Int32))])) _
                            refine st760 _ ?_
                            show Steps p.tables e below (T760.setTop (mkF m 12 #[.val (.int p1), .val (.int p2), .val (.int (11 : Int32)), .unset, .unset, .unset, .unset] [(.ref w_PINGREQ)])) _
                            refine XS.astoreN X760.here hx rfl (hb hby at_12) rfl rfl (l' := #[.val (.int p1), .val (.int p2), .val (.int (11 : Int32)), .val (.ref w_PINGREQ), .unset, .unset, .unset]) rfl ?_
                            show Steps p.tables e below (T760.setTop (mkF m 13 #[.val (.int p1), .val (.int p2), .val (.int (11 : Int32)), .val (.ref w_PINGREQ), .unset, .unset, .unset] [])) _
                            refine XS.iloadN X760.here hx rfl (hb hby at_13) rfl ?_
                            show Steps p.tables e below (T760.setTop (mkF m 14 #[.val (.int p1), .val (.int p2), .val (.int (11 : Int32)), .val (.ref w_PINGREQ), .unset, .unset, .unset] [(.int (11 : Int32))])) _
                            refine XS.iconst X760.here hx rfl (hb hby at_14) ?_
                            show Steps p.tables e below (T760.setTop (mkF m 15 #[.val (.int p1), .val (.int p2), .val (.int (11 : Int32)), .val (.ref w_PINGREQ), .unset, .unset, .unset] [(.int (2 : Int32)), (.int (11 : Int32))])) _
                            refine XS.icmpYes X760.here hx rfl (pc0 := 15) (pc' := 25) rfl (hb hby at_15) rfl (feq (by decide : ¬ ((11 : Int32) = (2 : Int32)))).2 (by decide) (by decide) ?_
                            show Steps p.tables e below (T760.setTop (mkF m 25 #[.val (.int p1), .val (.int p2), .val (.int (11 : Int32)), .val (.ref w_PINGREQ), .unset, .unset, .unset] [])) _
                            refine XS.iloadN X760.here hx rfl (hb hby at_25) rfl ?_
                            show Steps p.tables e below (T760.setTop (mkF m 26 #[.val (.int p1), .val (.int p2), .val (.int (11 : Int32)), .val (.ref w_PINGREQ), .unset, .unset, .unset] [(.int p2)])) _
                            refine XS.istore X760.here hx rfl (hb hby at_26) rfl (l' := #[.val (.int p1), .val (.int p2), .val (.int (11 : Int32)), .val (.ref w_PINGREQ), .val (.int p2), .unset, .unset]) rfl ?_
                            show Steps p.tables e below (T760.setTop (mkF m 28 #[.val (.int p1), .val (.int p2), .val (.int (11 : Int32)), .val (.ref w_PINGREQ), .val (.int p2), .unset, .unset] [])) _
                            refine XS.aloadN X760.here hx rfl (hb hby at_28) rfl rfl ?_
                            show Steps p.tables e below (T760.setTop (mkF m 29 #[.val (.int p1), .val (.int p2), .val (.int (11 : Int32)), .val (.ref w_PINGREQ), .val (.int p2), .unset, .unset] [(.ref w_PINGREQ)])) _
                            refine XS.iload X760.here hx rfl (hb hby at_29) rfl ?_
                            show Steps p.tables e below (T760.setTop (mkF m 31 #[.val (.int p1), .val (.int p2), .val (.int (11 : Int32)), .val (.ref w_PINGREQ), .val (.int p2), .unset, .unset] [(.int p2), (.ref w_PINGREQ)])) _
                            refine st762.trans ?_
                            show Steps p.tables e below (T762.setTop (mkF m 34 #[.val (.int p1), .val (.int p2), .val (.int (11 : Int32)), .val (.ref w_PINGREQ), .val (.int p2), .unset, .unset] [(.int (192 : Int32))])) _
                            refine XS.istore X762.here hx rfl (hb hby at_34) rfl (l' := #[.val (.int p1), .val (.int p2), .val (.int (11 : Int32)), .val (.ref w_PINGREQ), .val (.int p2), .val (.int (192 : Int32)), .unset]) rfl ?_
                            show Steps p.tables e below (T762.setTop (mkF m 36 #[.val (.int p1), .val (.int p2), .val (.int (11 : Int32)), .val (.ref w_PINGREQ), .val (.int p2), .val (.int (192 : Int32)), .unset] [])) _
                            refine XS.iloadN X762.here hx rfl (hb hby at_36) rfl ?_
                            show Steps p.tables e below (T762.setTop (mkF m 37 #[.val (.int p1), .val (.int p2), .val (.int (11 : Int32)), .val (.ref w_PINGREQ), .val (.int p2), .val (.int (192 : Int32)), .unset] [(.int (11 : Int32))])) _
                            refine XS.iconst X762.here hx rfl (hb hby at_37) ?_
                            show Steps p.tables e below (T762.setTop (mkF m 38 #[.val (.int p1), .val (.int p2), .val (.int (11 : Int32)), .val (.ref w_PINGREQ), .val (.int p2), .val (.int (192 : Int32)), .unset] [(.int (2 : Int32)), (.int (11 : Int32))])) _
                            refine XS.icmpYes X762.here hx rfl (pc0 := 38) (pc' := 51) rfl (hb hby at_38) rfl (feq (by decide : ¬ ((11 : Int32) = (2 : Int32)))).2 (by decide) (by decide) ?_
                            show Steps p.tables e below (T762.setTop (mkF m 51 #[.val (.int p1), .val (.int p2), .val (.int (11 : Int32)), .val (.ref w_PINGREQ), .val (.int p2), .val (.int (192 : Int32)), .unset] [])) _
                            refine XS.iloadN X762.here hx rfl (hb hby at_51) rfl ?_
                            show Steps p.tables e below (T762.setTop (mkF m 52 #[.val (.int p1), .val (.int p2), .val (.int (11 : Int32)), .val (.ref w_PINGREQ), .val (.int p2), .val (.int (192 : Int32)), .unset] [(.int (11 : Int32))])) _
                            refine st764 _ ?_
                            show Steps p.tables e below (T764.setTop (mkF m 55 #[.val (.int p1), .val (.int p2), .val (.int (11 : Int32)), .val (.ref w_PINGREQ), .val (.int p2), .val (.int (192 : Int32)), .unset] [(.int (192 : Int32))])) _
                            refine XS.istore X764.here hx rfl (hb hby at_55) rfl (l' := #[.val (.int p1), .val (.int p2), .val (.int (11 : Int32)), .val (.ref w_PINGREQ), .val (.int p2), .val (.int (192 : Int32)), .val (.int (192 : Int32))]) rfl ?_
                            show Steps p.tables e below (T764.setTop (mkF m 57 #[.val (.int p1), .val (.int p2), .val (.int (11 : Int32)), .val (.ref w_PINGREQ), .val (.int p2), .val (.int (192 : Int32)), .val (.int (192 : Int32))] [])) _
                            refine XS.iload X764.here hx rfl (hb hby at_57) rfl ?_
                            show Steps p.tables e below (T764.setTop (mkF m 59 #[.val (.int p1), .val (.int p2), .val (.int (11 : Int32)), .val (.ref w_PINGREQ), .val (.int p2), .val (.int (192 : Int32)), .val (.int (192 : Int32))] [(.int (192 : Int32))])) _
                            refine XS.iload X764.here hx rfl (hb hby at_59) rfl ?_
                            show Steps p.tables e below (T764.setTop (mkF m 61 #[.val (.int p1), .val (.int p2), .val (.int (11 : Int32)), .val (.ref w_PINGREQ), .val (.int p2), .val (.int (192 : Int32)), .val (.int (192 : Int32))] [(.int (192 : Int32)), (.int (192 : Int32))])) _
                            refine XS.icmpNo X764.here hx rfl (hb hby at_61) rfl (teq (by decide : (192 : Int32) = (192 : Int32))).2 ?_
                            show Steps p.tables e below (T764.setTop (mkF m 64 #[.val (.int p1), .val (.int p2), .val (.int (11 : Int32)), .val (.ref w_PINGREQ), .val (.int p2), .val (.int (192 : Int32)), .val (.int (192 : Int32))] [])) _
                            refine XS.iload X764.here hx rfl (hb hby at_64) rfl ?_
                            show Steps p.tables e below (T764.setTop (mkF m 66 #[.val (.int p1), .val (.int p2), .val (.int (11 : Int32)), .val (.ref w_PINGREQ), .val (.int p2), .val (.int (192 : Int32)), .val (.int (192 : Int32))] [(.int (192 : Int32))])) _
                            refine st766 _ ?_
                            show Steps p.tables e below (T766.setTop (mkF m 69 #[.val (.int p1), .val (.int p2), .val (.int (11 : Int32)), .val (.ref w_PINGREQ), .val (.int p2), .val (.int (192 : Int32)), .val (.int (192 : Int32))] [(.ref w_PINGREQ)])) _
                            refine XS.aloadN X766.here hx rfl (hb hby at_69) rfl rfl ?_
                            show Steps p.tables e below (T766.setTop (mkF m 70 #[.val (.int p1), .val (.int p2), .val (.int (11 : Int32)), .val (.ref w_PINGREQ), .val (.int p2), .val (.int (192 : Int32)), .val (.int (192 : Int32))] [(.ref w_PINGREQ), (.ref w_PINGREQ)])) _
                            refine Jvm.RoadKit.acmp (g := (mkF m 70 #[.val (.int p1), .val (.int p2), .val (.int (11 : Int32)), .val (.ref w_PINGREQ), .val (.int p2), .val (.int (192 : Int32)), .val (.int (192 : Int32))] [(.ref w_PINGREQ), (.ref w_PINGREQ)])) X766 hx rfl rfl rfl (pc0 := 70) (pc' := 73) (same := true) rfl (hb hby at_70) rfl (decide_eq_true rfl) (by decide) (by decide) ?_
                            show Steps p.tables e below (T766.setTop (mkF m 73 #[.val (.int p1), .val (.int p2), .val (.int (11 : Int32)), .val (.ref w_PINGREQ), .val (.int p2), .val (.int (192 : Int32)), .val (.int (192 : Int32))] [])) _
                            refine XS.iconst X766.here hx rfl (hb hby at_73) ?_
                            show Steps p.tables e below (T766.setTop (mkF m 74 #[.val (.int p1), .val (.int p2), .val (.int (11 : Int32)), .val (.ref w_PINGREQ), .val (.int p2), .val (.int (192 : Int32)), .val (.int (192 : Int32))] [(.int (1 : Int32))])) _
                            refine XS.goto X766.here hx rfl (pc0 := 74) (pc' := 78) rfl (hb hby at_74) (by decide) (by decide) ?_
                            show Steps p.tables e below (T766.setTop (mkF m 78 #[.val (.int p1), .val (.int p2), .val (.int (11 : Int32)), .val (.ref w_PINGREQ), .val (.int p2), .val (.int (192 : Int32)), .val (.int (192 : Int32))] [(.int (1 : Int32))])) _
                            exact retN X766 hx (t := .boolean) Bd.returns (by simp) (hb hby at_78) hr
                          · show own_Q0 Z p1 p2 w_CONNECT w_CONNACK w_PUBLISH w_PUBACK w_PUBREC w_PUBREL w_PUBCOMP w_SUBSCRIBE w_SUBACK w_UNSUBSCRIBE w_UNSUBACK w_PINGREQ w_PINGRESP w_DISCONNECT k_w__VALUES w__VALUES h0 n0 _ T766.heap _
                            exact ⟨(by rw [own_f0, if_neg hc1, if_neg hc2, if_neg hc3, if_neg hc4, if_neg hc5, if_neg hc6, if_neg hc7, if_neg hc8, if_neg hc9, if_neg hc10, if_neg hc11, if_pos hc12]), N827⟩
                        ·
                          by_cases hc13 : ((p1 &&& (2147483647 : Int32)) - ((p1 &&& (2147483647 : Int32)) / (14 : Int32)) * (14 : Int32)) = (12 : Int32)
                          ·
                            have k828 : ∀ t, Steps p.tables e below (s₁.setTop (mkF m 7 #[.val (.int p1), .val (.int p2), .unset, .unset, .unset, .unset, .unset] [(.int (12 : Int32))])) t → Steps p.tables e below (s₁.setTop (entryFrame m #[(.int p1), (.int p2)] maxLocals)) t := by
                              intro t kt
                              refine k1 t ?_
                              rw [hc13]
                              exact kt
                            obtain ⟨v829, _, ⟨T829, L829, k829, n829⟩, -, X829, ⟨Lc829, hQ829, l829, y829, z829⟩, st829⟩ := Jvm.LawKit.callS X0 hx (y := (⟨"com/example/castd/castd/mqtt/PacketTypeFirstBytePinLaw", "type", "(I)Lcom/example/castd/castd/mqtt/PacketType;"⟩ : MethodName)) hown (mvT hZ (hw _ (List.mem_of_getElem? (i := 1) rfl))) (mvT hZ (hw _ (List.mem_of_getElem? (i := 2) rfl))) (mvT hZ (hw _ (List.mem_of_getElem? (i := 3) rfl))) (mvT hZ (hw _ (List.mem_of_getElem? (i := 4) rfl))) (by decide) (backOf (W := 0) (own_rm1 l Z a0 hw [] (12 : Int32) w_CONNECT w_CONNACK w_PUBLISH w_PUBACK w_PUBREC w_PUBREL w_PUBCOMP w_SUBSCRIBE w_SUBACK w_UNSUBSCRIBE w_UNSUBACK w_PINGREQ w_PINGRESP w_DISCONNECT h0 n0 Z0 S_CONNECT S_CONNACK S_PUBLISH S_PUBACK S_PUBREC S_PUBREL S_PUBCOMP S_SUBSCRIBE S_SUBACK S_UNSUBSCRIBE S_UNSUBACK S_PINGREQ S_PINGRESP S_DISCONNECT) hZ (hw _ (List.mem_of_getElem? (i := 4) rfl)) (hw _ (List.mem_of_getElem? (i := 3) rfl)) (by decide) (by decide)) (g := (mkF m 9 #[.val (.int p1), .val (.int p2), .val (.int (12 : Int32)), .unset, .unset, .unset, .unset] [(.int (12 : Int32))])) rfl (by rw [hml]; rfl) (argsL := [(.int (12 : Int32))]) (rest := []) (lenOf own_pd119 rfl) rfl (by show 2 * 0 + _ ≤ _; exact Nat.le_of_eq rfl) (hb hby at_9) (fun _ _ => ⟨rfl, e0, (by decide : 0 + 0 ≤ _), (by decide : 0 + 0 ≤ _)⟩)
                            dsimp only [Pt.U, Pt.locs, Pt.cells, Pt.slots] at X829 l829 y829 z829 st829 hQ829
                            subst l829 y829 z829
                            obtain ⟨hv829, N829q, e829⟩ := hQ829
                            have N830 := Fr.app N0 N829q
                            rw [show (own_f1 (12 : Int32) w_CONNECT w_CONNACK w_PUBLISH w_PUBACK w_PUBREC w_PUBREL w_PUBCOMP w_SUBSCRIBE w_SUBACK w_UNSUBSCRIBE w_UNSUBACK w_PINGREQ w_PINGRESP w_DISCONNECT) = w_PINGRESP from by first | rfl | decide | simp [own_f1]] at hv829
                            subst hv829
                            obtain ⟨cq831, kq831, q831a, q831b, q831c⟩ := isOf hZ e829 E_w_PINGRESP
                            obtain ⟨v831, _, ⟨T831, L831, k831, n831⟩, -, X831, ⟨Lc831, hQ831, l831, y831, z831⟩, st831⟩ := X829.virtualBack hx (y := (⟨"com/example/castd/castd/mqtt/PacketType", "firstByte", "(I)I"⟩ : MethodName)) (z := (⟨"com/example/castd/castd/mqtt/PacketType", "firstByte", "(I)I"⟩ : MethodName)) hown (mvT hZ (hw _ (List.mem_of_getElem? (i := 8) rfl))) (mvT hZ (hw _ (List.mem_of_getElem? (i := 9) rfl))) (notFace_of_selects (args := #[]) (mvT hZ (hw _ (List.mem_of_getElem? (i := 11) rfl)))) (mvT hZ (hw _ (List.mem_of_getElem? (i := 11) rfl))) (mvT hZ (hw _ (List.mem_of_getElem? (i := 10) rfl))) (by decide) (backOf (W := 0) (own_rm2 l Z a0 hw [] w_PINGRESP p2 (0 : Int32) (13 : Int32) h0 n0 Z0 F_requiredFlags_w_PINGRESP F_code_w_PINGRESP) hZ (hw _ (List.mem_of_getElem? (i := 12) rfl)) (hw _ (List.mem_of_getElem? (i := 6) rfl)) (by decide) (by decide)) q831a q831c (g := (mkF m 31 #[.val (.int p1), .val (.int p2), .val (.int (12 : Int32)), .val (.ref w_PINGRESP), .val (.int p2), .unset, .unset] [(.int p2), (.ref w_PINGRESP)])) rfl (by rw [hml]; rfl) (Steps.refl _) (argsL := [(.int p2)]) (rest := []) (lenOf own_pd120 rfl) rfl (by show 2 * 0 + _ ≤ _; exact Nat.le_of_eq rfl) (hb hby at_31) (fun _ _ => ⟨rfl, e829, (by decide : 0 + 0 ≤ _), (by decide : 0 + 0 ≤ _)⟩)
                            dsimp only [Pt.U, Pt.locs, Pt.cells, Pt.slots] at X831 l831 y831 z831 st831 hQ831
                            subst l831 y831 z831
                            obtain ⟨hv831, N831q, e831⟩ := hQ831
                            have N832 := Fr.app N830 N831q
                            rw [show (own_f2 p2 (0 : Int32) (13 : Int32)) = (208 : Int32) from by first | rfl | decide | simp [own_f2]] at hv831
                            subst hv831
                            obtain ⟨v833, _, ⟨T833, L833, k833, n833⟩, -, X833, ⟨Lc833, hQ833, l833, y833, z833⟩, st833⟩ := Jvm.LawKit.callS X831 hx (y := (⟨"com/example/castd/castd/mqtt/PacketTypeFirstBytePinLaw", "fixed", "(I)I"⟩ : MethodName)) hown (mvT hZ (hw _ (List.mem_of_getElem? (i := 17) rfl))) (mvT hZ (hw _ (List.mem_of_getElem? (i := 18) rfl))) (mvT hZ (hw _ (List.mem_of_getElem? (i := 3) rfl))) (mvT hZ (hw _ (List.mem_of_getElem? (i := 19) rfl))) (by decide) (backOf (W := 0) (own_rm3 l Z a0 hw [] (12 : Int32) h0 n0 Z0) hZ (hw _ (List.mem_of_getElem? (i := 19) rfl)) (hw _ (List.mem_of_getElem? (i := 3) rfl)) (by decide) (by decide)) (g := (mkF m 52 #[.val (.int p1), .val (.int p2), .val (.int (12 : Int32)), .val (.ref w_PINGRESP), .val (.int p2), .val (.int (208 : Int32)), .unset] [(.int (12 : Int32))])) rfl (by rw [hml]; rfl) (argsL := [(.int (12 : Int32))]) (rest := []) (lenOf own_pd120 rfl) rfl (by show 2 * 0 + _ ≤ _; exact Nat.le_of_eq rfl) (hb hby at_52) (fun _ _ => ⟨rfl, e831, (by decide : 0 + 0 ≤ _), (by decide : 0 + 0 ≤ _)⟩)
                            dsimp only [Pt.U, Pt.locs, Pt.cells, Pt.slots] at X833 l833 y833 z833 st833 hQ833
                            subst l833 y833 z833
                            obtain ⟨hv833, N833q, e833⟩ := hQ833
                            have N834 := Fr.app N832 N833q
                            rw [show (own_f3 (12 : Int32)) = (208 : Int32) from by first | rfl | decide | simp [own_f3]] at hv833
                            subst hv833
                            obtain ⟨v835, _, ⟨T835, L835, k835, n835⟩, -, X835, ⟨Lc835, hQ835, l835, y835, z835⟩, st835⟩ := Jvm.LawKit.callS X833 hx (y := (⟨"com/example/castd/castd/mqtt/PacketType", "fromFirstByte", "(I)Lcom/example/castd/castd/mqtt/PacketType;"⟩ : MethodName)) hown (mvT hZ (hw _ (List.mem_of_getElem? (i := 20) rfl))) (mvT hZ (hw _ (List.mem_of_getElem? (i := 21) rfl))) (mvT hZ (hw _ (List.mem_of_getElem? (i := 6) rfl))) (mvT hZ (hw _ (List.mem_of_getElem? (i := 22) rfl))) (by decide) (backOf (W := 0) (own_v208_rm4 l Z a0 hw [] w_CONNECT w_DISCONNECT k_w__VALUES w_CONNACK w_PUBLISH w_PUBACK w_PUBREC w_PUBREL w_PUBCOMP w_SUBSCRIBE w_SUBACK w_UNSUBSCRIBE w_UNSUBACK w_PINGREQ w_PINGRESP w__VALUES h0 n0 Z0 S_CONNECT F_code_w_CONNECT S_DISCONNECT F_code_w_DISCONNECT V_w__VALUES S__VALUES E_w__VALUES F_requiredFlags_w_PINGRESP) hZ (hw _ (List.mem_of_getElem? (i := 22) rfl)) (hw _ (List.mem_of_getElem? (i := 6) rfl)) (by decide) (by decide)) (g := (mkF m 66 #[.val (.int p1), .val (.int p2), .val (.int (12 : Int32)), .val (.ref w_PINGRESP), .val (.int p2), .val (.int (208 : Int32)), .val (.int (208 : Int32))] [(.int (208 : Int32))])) rfl (by rw [hml]; rfl) (argsL := [(.int (208 : Int32))]) (rest := []) (lenOf own_pd119 rfl) rfl (by show 2 * 0 + _ ≤ _; exact Nat.le_of_eq rfl) (hb hby at_66) (fun _ _ => ⟨rfl, e833, (by decide : 0 + 1 ≤ _), (by decide : 0 + 14 ≤ _)⟩)
                            dsimp only [Pt.U, Pt.locs, Pt.cells, Pt.slots] at X835 l835 y835 z835 st835 hQ835
                            subst l835 y835 z835
                            obtain ⟨hv835, N835q, K835⟩ := hQ835
                            have f836 := own_staKeep S_CONNECT K835
                            have f837 := own_staKeep S_CONNACK K835
                            have f838 := own_staKeep S_PUBLISH K835
                            have f839 := own_staKeep S_PUBACK K835
                            have f840 := own_staKeep S_PUBREC K835
                            have f841 := own_staKeep S_PUBREL K835
                            have f842 := own_staKeep S_PUBCOMP K835
                            have f843 := own_staKeep S_SUBSCRIBE K835
                            have f844 := own_staKeep S_SUBACK K835
                            have f845 := own_staKeep S_UNSUBSCRIBE K835
                            have f846 := own_staKeep S_UNSUBACK K835
                            have f847 := own_staKeep S_PINGREQ K835
                            have f848 := own_staKeep S_PINGRESP K835
                            have f849 := own_staKeep S_DISCONNECT K835
                            have f850 := F_requiredFlags_w_CONNECT.keep K835 nin0
                            have f851 := F_code_w_CONNECT.keep K835 nin0
                            have f852 := E_w_CONNECT.keep K835
                            have f853 := F_code_w_DISCONNECT.keep K835 nin0
                            have f854 := V_w__VALUES.keep K835 nin0
                            have f855 := own_staKeep S__VALUES K835
                            have f856 := E_w__VALUES.keep K835
                            have f857 := F_requiredFlags_w_CONNACK.keep K835 nin0
                            have f858 := F_code_w_CONNACK.keep K835 nin0
                            have f859 := E_w_CONNACK.keep K835
                            have f860 := F_requiredFlags_w_PUBLISH.keep K835 nin0
                            have f861 := F_code_w_PUBLISH.keep K835 nin0
                            have f862 := E_w_PUBLISH.keep K835
                            have f863 := F_requiredFlags_w_PUBACK.keep K835 nin0
                            have f864 := F_code_w_PUBACK.keep K835 nin0
                            have f865 := E_w_PUBACK.keep K835
                            have f866 := F_requiredFlags_w_PUBREC.keep K835 nin0
                            have f867 := F_code_w_PUBREC.keep K835 nin0
                            have f868 := E_w_PUBREC.keep K835
                            have f869 := F_requiredFlags_w_PUBREL.keep K835 nin0
                            have f870 := F_code_w_PUBREL.keep K835 nin0
                            have f871 := E_w_PUBREL.keep K835
                            have f872 := F_requiredFlags_w_PUBCOMP.keep K835 nin0
                            have f873 := F_code_w_PUBCOMP.keep K835 nin0
                            have f874 := E_w_PUBCOMP.keep K835
                            have f875 := F_requiredFlags_w_SUBSCRIBE.keep K835 nin0
                            have f876 := F_code_w_SUBSCRIBE.keep K835 nin0
                            have f877 := E_w_SUBSCRIBE.keep K835
                            have f878 := F_requiredFlags_w_SUBACK.keep K835 nin0
                            have f879 := F_code_w_SUBACK.keep K835 nin0
                            have f880 := E_w_SUBACK.keep K835
                            have f881 := F_requiredFlags_w_UNSUBSCRIBE.keep K835 nin0
                            have f882 := F_code_w_UNSUBSCRIBE.keep K835 nin0
                            have f883 := E_w_UNSUBSCRIBE.keep K835
                            have f884 := F_requiredFlags_w_UNSUBACK.keep K835 nin0
                            have f885 := F_code_w_UNSUBACK.keep K835 nin0
                            have f886 := E_w_UNSUBACK.keep K835
                            have f887 := F_requiredFlags_w_PINGREQ.keep K835 nin0
                            have f888 := F_code_w_PINGREQ.keep K835 nin0
                            have f889 := E_w_PINGREQ.keep K835
                            have f890 := F_requiredFlags_w_PINGRESP.keep K835 nin0
                            have f891 := F_code_w_PINGRESP.keep K835 nin0
                            have f892 := E_w_PINGRESP.keep K835
                            have f893 := F_requiredFlags_w_DISCONNECT.keep K835 nin0
                            have f894 := E_w_DISCONNECT.keep K835
                            have Z895 := Nat.le_trans Z0 K835.1
                            have N896 := Fr.app N834 N835q
                            rw [show (own_v208_f4 w_PINGRESP) = w_PINGRESP from by first | rfl | decide | simp [own_v208_f4]] at hv835
                            subst hv835
                            obtain ⟨fs, hr, hrun, hended, hW, hsame⟩ := X835.leave (v := some (.int (1 : Int32))) (fun h => by rw [Bd.returns] at h; cases h)
                            refine ⟨_, _, k828 _ ?_, hrun, hended, _, _, rfl, ?_, ⟨_, rfl⟩, hW, hsame.mono (by decide) (by decide)⟩
                            · show Steps p.tables e below (s₁.setTop (mkF m 7 #[.val (.int p1), .val (.int p2), .unset, .unset, .unset, .unset, .unset] [(.int (12 : Int32))])) _
                              refine XS.istoreN X0.here hx rfl (hb hby at_7) rfl (l' := #[.val (.int p1), .val (.int p2), .val (.int (12 : Int32)), .unset, .unset, .unset, .unset]) rfl ?_
                              show Steps p.tables e below (s₁.setTop (mkF m 8 #[.val (.int p1), .val (.int p2), .val (.int (12 : Int32)), .unset, .unset, .unset, .unset] [])) _
                              refine XS.iloadN X0.here hx rfl (hb hby at_8) rfl ?_
                              show Steps p.tables e below (s₁.setTop (mkF m 9 #[.val (.int p1), .val (.int p2), .val (.int (12 : Int32)), .unset, .unset, .unset, .unset] [(.int (12 : Int32))])) _
                              refine st829 _ ?_
                              show Steps p.tables e below (T829.setTop (mkF m 12 #[.val (.int p1), .val (.int p2), .val (.int (12 : Int32)), .unset, .unset, .unset, .unset] [(.ref w_PINGRESP)])) _
                              refine XS.astoreN X829.here hx rfl (hb hby at_12) rfl rfl (l' := #[.val (.int p1), .val (.int p2), .val (.int (12 : Int32)), .val (.ref w_PINGRESP), .unset, .unset, .unset]) rfl ?_
                              show Steps p.tables e below (T829.setTop (mkF m 13 #[.val (.int p1), .val (.int p2), .val (.int (12 : Int32)), .val (.ref w_PINGRESP), .unset, .unset, .unset] [])) _
                              refine XS.iloadN X829.here hx rfl (hb hby at_13) rfl ?_
                              show Steps p.tables e below (T829.setTop (mkF m 14 #[.val (.int p1), .val (.int p2), .val (.int (12 : Int32)), .val (.ref w_PINGRESP), .unset, .unset, .unset] [(.int (12 : Int32))])) _
                              refine XS.iconst X829.here hx rfl (hb hby at_14) ?_
                              show Steps p.tables e below (T829.setTop (mkF m 15 #[.val (.int p1), .val (.int p2), .val (.int (12 : Int32)), .val (.ref w_PINGRESP), .unset, .unset, .unset] [(.int (2 : Int32)), (.int (12 : Int32))])) _
                              refine XS.icmpYes X829.here hx rfl (pc0 := 15) (pc' := 25) rfl (hb hby at_15) rfl (feq (by decide : ¬ ((12 : Int32) = (2 : Int32)))).2 (by decide) (by decide) ?_
                              show Steps p.tables e below (T829.setTop (mkF m 25 #[.val (.int p1), .val (.int p2), .val (.int (12 : Int32)), .val (.ref w_PINGRESP), .unset, .unset, .unset] [])) _
                              refine XS.iloadN X829.here hx rfl (hb hby at_25) rfl ?_
                              show Steps p.tables e below (T829.setTop (mkF m 26 #[.val (.int p1), .val (.int p2), .val (.int (12 : Int32)), .val (.ref w_PINGRESP), .unset, .unset, .unset] [(.int p2)])) _
                              refine XS.istore X829.here hx rfl (hb hby at_26) rfl (l' := #[.val (.int p1), .val (.int p2), .val (.int (12 : Int32)), .val (.ref w_PINGRESP), .val (.int p2), .unset, .unset]) rfl ?_
                              show Steps p.tables e below (T829.setTop (mkF m 28 #[.val (.int p1), .val (.int p2), .val (.int (12 : Int32)), .val (.ref w_PINGRESP), .val (.int p2), .unset, .unset] [])) _
                              refine XS.aloadN X829.here hx rfl (hb hby at_28) rfl rfl ?_
                              show Steps p.tables e below (T829.setTop (mkF m 29 #[.val (.int p1), .val (.int p2), .val (.int (12 : Int32)), .val (.ref w_PINGRESP), .val (.int p2), .unset, .unset] [(.ref w_PINGRESP)])) _
                              refine XS.iload X829.here hx rfl (hb hby at_29) rfl ?_
                              show Steps p.tables e below (T829.setTop (mkF m 31 #[.val (.int p1), .val (.int p2), .val (.int (12 : Int32)), .val (.ref w_PINGRESP), .val (.int p2), .unset, .unset] [(.int p2), (.ref w_PINGRESP)])) _
                              refine st831.trans ?_
                              show Steps p.tables e below (T831.setTop (mkF m 34 #[.val (.int p1), .val (.int p2), .val (.int (12 : Int32)), .val (.ref w_PINGRESP), .val (.int p2), .unset, .unset] [(.int (208 : Int32))])) _
                              refine XS.istore X831.here hx rfl (hb hby at_34) rfl (l' := #[.val (.int p1), .val (.int p2), .val (.int (12 : Int32)), .val (.ref w_PINGRESP), .val (.int p2), .val (.int (208 : Int32)), .unset]) rfl ?_
                              show Steps p.tables e below (T831.setTop (mkF m 36 #[.val (.int p1), .val (.int p2), .val (.int (12 : Int32)), .val (.ref w_PINGRESP), .val (.int p2), .val (.int (208 : Int32)), .unset] [])) _
                              refine XS.iloadN X831.here hx rfl (hb hby at_36) rfl ?_
                              show Steps p.tables e below (T831.setTop (mkF m 37 #[.val (.int p1), .val (.int p2), .val (.int (12 : Int32)), .val (.ref w_PINGRESP), .val (.int p2), .val (.int (208 : Int32)), .unset] [(.int (12 : Int32))])) _
                              refine XS.iconst X831.here hx rfl (hb hby at_37) ?_
                              show Steps p.tables e below (T831.setTop (mkF m 38 #[.val (.int p1), .val (.int p2), .val (.int (12 : Int32)), .val (.ref w_PINGRESP), .val (.int p2), .val (.int (208 : Int32)), .unset] [(.int (2 : Int32)), (.int (12 : Int32))])) _
                              refine XS.icmpYes X831.here hx rfl (pc0 := 38) (pc' := 51) rfl (hb hby at_38) rfl (feq (by decide : ¬ ((12 : Int32) = (2 : Int32)))).2 (by decide) (by decide) ?_
                              show Steps p.tables e below (T831.setTop (mkF m 51 #[.val (.int p1), .val (.int p2), .val (.int (12 : Int32)), .val (.ref w_PINGRESP), .val (.int p2), .val (.int (208 : Int32)), .unset] [])) _
                              refine XS.iloadN X831.here hx rfl (hb hby at_51) rfl ?_
                              show Steps p.tables e below (T831.setTop (mkF m 52 #[.val (.int p1), .val (.int p2), .val (.int (12 : Int32)), .val (.ref w_PINGRESP), .val (.int p2), .val (.int (208 : Int32)), .unset] [(.int (12 : Int32))])) _
                              refine st833 _ ?_
                              show Steps p.tables e below (T833.setTop (mkF m 55 #[.val (.int p1), .val (.int p2), .val (.int (12 : Int32)), .val (.ref w_PINGRESP), .val (.int p2), .val (.int (208 : Int32)), .unset] [(.int (208 : Int32))])) _
                              refine XS.istore X833.here hx rfl (hb hby at_55) rfl (l' := #[.val (.int p1), .val (.int p2), .val (.int (12 : Int32)), .val (.ref w_PINGRESP), .val (.int p2), .val (.int (208 : Int32)), .val (.int (208 : Int32))]) rfl ?_
                              show Steps p.tables e below (T833.setTop (mkF m 57 #[.val (.int p1), .val (.int p2), .val (.int (12 : Int32)), .val (.ref w_PINGRESP), .val (.int p2), .val (.int (208 : Int32)), .val (.int (208 : Int32))] [])) _
                              refine XS.iload X833.here hx rfl (hb hby at_57) rfl ?_
                              show Steps p.tables e below (T833.setTop (mkF m 59 #[.val (.int p1), .val (.int p2), .val (.int (12 : Int32)), .val (.ref w_PINGRESP), .val (.int p2), .val (.int (208 : Int32)), .val (.int (208 : Int32))] [(.int (208 : Int32))])) _
                              refine XS.iload X833.here hx rfl (hb hby at_59) rfl ?_
                              show Steps p.tables e below (T833.setTop (mkF m 61 #[.val (.int p1), .val (.int p2), .val (.int (12 : Int32)), .val (.ref w_PINGRESP), .val (.int p2), .val (.int (208 : Int32)), .val (.int (208 : Int32))] [(.int (208 : Int32)), (.int (208 : Int32))])) _
                              refine XS.icmpNo X833.here hx rfl (hb hby at_61) rfl (teq (by decide : (208 : Int32) = (208 : Int32))).2 ?_
                              show Steps p.tables e below (T833.setTop (mkF m 64 #[.val (.int p1), .val (.int p2), .val (.int (12 : Int32)), .val (.ref w_PINGRESP), .val (.int p2), .val (.int (208 : Int32)), .val (.int (208 : Int32))] [])) _
                              refine XS.iload X833.here hx rfl (hb hby at_64) rfl ?_
                              show Steps p.tables e below (T833.setTop (mkF m 66 #[.val (.int p1), .val (.int p2), .val (.int (12 : Int32)), .val (.ref w_PINGRESP), .val (.int p2), .val (.int (208 : Int32)), .val (.int (208 : Int32))] [(.int (208 : Int32))])) _
                              refine st835 _ ?_
                              show Steps p.tables e below (T835.setTop (mkF m 69 #[.val (.int p1), .val (.int p2), .val (.int (12 : Int32)), .val (.ref w_PINGRESP), .val (.int p2), .val (.int (208 : Int32)), .val (.int (208 : Int32))] [(.ref w_PINGRESP)])) _
                              refine XS.aloadN X835.here hx rfl (hb hby at_69) rfl rfl ?_
                              show Steps p.tables e below (T835.setTop (mkF m 70 #[.val (.int p1), .val (.int p2), .val (.int (12 : Int32)), .val (.ref w_PINGRESP), .val (.int p2), .val (.int (208 : Int32)), .val (.int (208 : Int32))] [(.ref w_PINGRESP), (.ref w_PINGRESP)])) _
                              refine Jvm.RoadKit.acmp (g := (mkF m 70 #[.val (.int p1), .val (.int p2), .val (.int (12 : Int32)), .val (.ref w_PINGRESP), .val (.int p2), .val (.int (208 : Int32)), .val (.int (208 : Int32))] [(.ref w_PINGRESP), (.ref w_PINGRESP)])) X835 hx rfl rfl rfl (pc0 := 70) (pc' := 73) (same := true) rfl (hb hby at_70) rfl (decide_eq_true rfl) (by decide) (by decide) ?_
                              show Steps p.tables e below (T835.setTop (mkF m 73 #[.val (.int p1), .val (.int p2), .val (.int (12 : Int32)), .val (.ref w_PINGRESP), .val (.int p2), .val (.int (208 : Int32)), .val (.int (208 : Int32))] [])) _
                              refine XS.iconst X835.here hx rfl (hb hby at_73) ?_
                              show Steps p.tables e below (T835.setTop (mkF m 74 #[.val (.int p1), .val (.int p2), .val (.int (12 : Int32)), .val (.ref w_PINGRESP), .val (.int p2), .val (.int (208 : Int32)), .val (.int (208 : Int32))] [(.int (1 : Int32))])) _
                              refine XS.goto X835.here hx rfl (pc0 := 74) (pc' := 78) rfl (hb hby at_74) (by decide) (by decide) ?_
                              show Steps p.tables e below (T835.setTop (mkF m 78 #[.val (.int p1), .val (.int p2), .val (.int (12 : Int32)), .val (.ref w_PINGRESP), .val (.int p2), .val (.int (208 : Int32)), .val (.int (208 : Int32))] [(.int (1 : Int32))])) _
                              exact retN X835 hx (t := .boolean) Bd.returns (by simp) (hb hby at_78) hr
                            · show own_Q0 Z p1 p2 w_CONNECT w_CONNACK w_PUBLISH w_PUBACK w_PUBREC w_PUBREL w_PUBCOMP w_SUBSCRIBE w_SUBACK w_UNSUBSCRIBE w_UNSUBACK w_PINGREQ w_PINGRESP w_DISCONNECT k_w__VALUES w__VALUES h0 n0 _ T835.heap _
                              exact ⟨(by rw [own_f0, if_neg hc1, if_neg hc2, if_neg hc3, if_neg hc4, if_neg hc5, if_neg hc6, if_neg hc7, if_neg hc8, if_neg hc9, if_neg hc10, if_neg hc11, if_neg hc12, if_pos hc13]), N896⟩
                          ·
                            have hc14 : ((p1 &&& (2147483647 : Int32)) - ((p1 &&& (2147483647 : Int32)) / (14 : Int32)) * (14 : Int32)) = (13 : Int32) := own_exh p1 hc1 hc2 hc3 hc4 hc5 hc6 hc7 hc8 hc9 hc10 hc11 hc12 hc13
                            have k897 : ∀ t, Steps p.tables e below (s₁.setTop (mkF m 7 #[.val (.int p1), .val (.int p2), .unset, .unset, .unset, .unset, .unset] [(.int (13 : Int32))])) t → Steps p.tables e below (s₁.setTop (entryFrame m #[(.int p1), (.int p2)] maxLocals)) t := by
                              intro t kt
                              refine k1 t ?_
                              rw [hc14]
                              exact kt
                            obtain ⟨v898, _, ⟨T898, L898, k898, n898⟩, -, X898, ⟨Lc898, hQ898, l898, y898, z898⟩, st898⟩ := Jvm.LawKit.callS X0 hx (y := (⟨"com/example/castd/castd/mqtt/PacketTypeFirstBytePinLaw", "type", "(I)Lcom/example/castd/castd/mqtt/PacketType;"⟩ : MethodName)) hown (mvT hZ (hw _ (List.mem_of_getElem? (i := 1) rfl))) (mvT hZ (hw _ (List.mem_of_getElem? (i := 2) rfl))) (mvT hZ (hw _ (List.mem_of_getElem? (i := 3) rfl))) (mvT hZ (hw _ (List.mem_of_getElem? (i := 4) rfl))) (by decide) (backOf (W := 0) (own_rm1 l Z a0 hw [] (13 : Int32) w_CONNECT w_CONNACK w_PUBLISH w_PUBACK w_PUBREC w_PUBREL w_PUBCOMP w_SUBSCRIBE w_SUBACK w_UNSUBSCRIBE w_UNSUBACK w_PINGREQ w_PINGRESP w_DISCONNECT h0 n0 Z0 S_CONNECT S_CONNACK S_PUBLISH S_PUBACK S_PUBREC S_PUBREL S_PUBCOMP S_SUBSCRIBE S_SUBACK S_UNSUBSCRIBE S_UNSUBACK S_PINGREQ S_PINGRESP S_DISCONNECT) hZ (hw _ (List.mem_of_getElem? (i := 4) rfl)) (hw _ (List.mem_of_getElem? (i := 3) rfl)) (by decide) (by decide)) (g := (mkF m 9 #[.val (.int p1), .val (.int p2), .val (.int (13 : Int32)), .unset, .unset, .unset, .unset] [(.int (13 : Int32))])) rfl (by rw [hml]; rfl) (argsL := [(.int (13 : Int32))]) (rest := []) (lenOf own_pd119 rfl) rfl (by show 2 * 0 + _ ≤ _; exact Nat.le_of_eq rfl) (hb hby at_9) (fun _ _ => ⟨rfl, e0, (by decide : 0 + 0 ≤ _), (by decide : 0 + 0 ≤ _)⟩)
                            dsimp only [Pt.U, Pt.locs, Pt.cells, Pt.slots] at X898 l898 y898 z898 st898 hQ898
                            subst l898 y898 z898
                            obtain ⟨hv898, N898q, e898⟩ := hQ898
                            have N899 := Fr.app N0 N898q
                            rw [show (own_f1 (13 : Int32) w_CONNECT w_CONNACK w_PUBLISH w_PUBACK w_PUBREC w_PUBREL w_PUBCOMP w_SUBSCRIBE w_SUBACK w_UNSUBSCRIBE w_UNSUBACK w_PINGREQ w_PINGRESP w_DISCONNECT) = w_DISCONNECT from by first | rfl | decide | simp [own_f1]] at hv898
                            subst hv898
                            obtain ⟨cq900, kq900, q900a, q900b, q900c⟩ := isOf hZ e898 E_w_DISCONNECT
                            obtain ⟨v900, _, ⟨T900, L900, k900, n900⟩, -, X900, ⟨Lc900, hQ900, l900, y900, z900⟩, st900⟩ := X898.virtualBack hx (y := (⟨"com/example/castd/castd/mqtt/PacketType", "firstByte", "(I)I"⟩ : MethodName)) (z := (⟨"com/example/castd/castd/mqtt/PacketType", "firstByte", "(I)I"⟩ : MethodName)) hown (mvT hZ (hw _ (List.mem_of_getElem? (i := 8) rfl))) (mvT hZ (hw _ (List.mem_of_getElem? (i := 9) rfl))) (notFace_of_selects (args := #[]) (mvT hZ (hw _ (List.mem_of_getElem? (i := 11) rfl)))) (mvT hZ (hw _ (List.mem_of_getElem? (i := 11) rfl))) (mvT hZ (hw _ (List.mem_of_getElem? (i := 10) rfl))) (by decide) (backOf (W := 0) (own_rm2 l Z a0 hw [] w_DISCONNECT p2 (0 : Int32) (14 : Int32) h0 n0 Z0 F_requiredFlags_w_DISCONNECT F_code_w_DISCONNECT) hZ (hw _ (List.mem_of_getElem? (i := 12) rfl)) (hw _ (List.mem_of_getElem? (i := 6) rfl)) (by decide) (by decide)) q900a q900c (g := (mkF m 31 #[.val (.int p1), .val (.int p2), .val (.int (13 : Int32)), .val (.ref w_DISCONNECT), .val (.int p2), .unset, .unset] [(.int p2), (.ref w_DISCONNECT)])) rfl (by rw [hml]; rfl) (Steps.refl _) (argsL := [(.int p2)]) (rest := []) (lenOf own_pd120 rfl) rfl (by show 2 * 0 + _ ≤ _; exact Nat.le_of_eq rfl) (hb hby at_31) (fun _ _ => ⟨rfl, e898, (by decide : 0 + 0 ≤ _), (by decide : 0 + 0 ≤ _)⟩)
                            dsimp only [Pt.U, Pt.locs, Pt.cells, Pt.slots] at X900 l900 y900 z900 st900 hQ900
                            subst l900 y900 z900
                            obtain ⟨hv900, N900q, e900⟩ := hQ900
                            have N901 := Fr.app N899 N900q
                            rw [show (own_f2 p2 (0 : Int32) (14 : Int32)) = (224 : Int32) from by first | rfl | decide | simp [own_f2]] at hv900
                            subst hv900
                            obtain ⟨v902, _, ⟨T902, L902, k902, n902⟩, -, X902, ⟨Lc902, hQ902, l902, y902, z902⟩, st902⟩ := Jvm.LawKit.callS X900 hx (y := (⟨"com/example/castd/castd/mqtt/PacketTypeFirstBytePinLaw", "fixed", "(I)I"⟩ : MethodName)) hown (mvT hZ (hw _ (List.mem_of_getElem? (i := 17) rfl))) (mvT hZ (hw _ (List.mem_of_getElem? (i := 18) rfl))) (mvT hZ (hw _ (List.mem_of_getElem? (i := 3) rfl))) (mvT hZ (hw _ (List.mem_of_getElem? (i := 19) rfl))) (by decide) (backOf (W := 0) (own_rm3 l Z a0 hw [] (13 : Int32) h0 n0 Z0) hZ (hw _ (List.mem_of_getElem? (i := 19) rfl)) (hw _ (List.mem_of_getElem? (i := 3) rfl)) (by decide) (by decide)) (g := (mkF m 52 #[.val (.int p1), .val (.int p2), .val (.int (13 : Int32)), .val (.ref w_DISCONNECT), .val (.int p2), .val (.int (224 : Int32)), .unset] [(.int (13 : Int32))])) rfl (by rw [hml]; rfl) (argsL := [(.int (13 : Int32))]) (rest := []) (lenOf own_pd120 rfl) rfl (by show 2 * 0 + _ ≤ _; exact Nat.le_of_eq rfl) (hb hby at_52) (fun _ _ => ⟨rfl, e900, (by decide : 0 + 0 ≤ _), (by decide : 0 + 0 ≤ _)⟩)
                            dsimp only [Pt.U, Pt.locs, Pt.cells, Pt.slots] at X902 l902 y902 z902 st902 hQ902
                            subst l902 y902 z902
                            obtain ⟨hv902, N902q, e902⟩ := hQ902
                            have N903 := Fr.app N901 N902q
                            rw [show (own_f3 (13 : Int32)) = (224 : Int32) from by first | rfl | decide | simp [own_f3]] at hv902
                            subst hv902
                            obtain ⟨v904, _, ⟨T904, L904, k904, n904⟩, -, X904, ⟨Lc904, hQ904, l904, y904, z904⟩, st904⟩ := Jvm.LawKit.callS X902 hx (y := (⟨"com/example/castd/castd/mqtt/PacketType", "fromFirstByte", "(I)Lcom/example/castd/castd/mqtt/PacketType;"⟩ : MethodName)) hown (mvT hZ (hw _ (List.mem_of_getElem? (i := 20) rfl))) (mvT hZ (hw _ (List.mem_of_getElem? (i := 21) rfl))) (mvT hZ (hw _ (List.mem_of_getElem? (i := 6) rfl))) (mvT hZ (hw _ (List.mem_of_getElem? (i := 22) rfl))) (by decide) (backOf (W := 0) (own_v224_rm4 l Z a0 hw [] w_CONNECT w_DISCONNECT k_w__VALUES w_CONNACK w_PUBLISH w_PUBACK w_PUBREC w_PUBREL w_PUBCOMP w_SUBSCRIBE w_SUBACK w_UNSUBSCRIBE w_UNSUBACK w_PINGREQ w_PINGRESP w__VALUES h0 n0 Z0 S_CONNECT F_code_w_CONNECT S_DISCONNECT F_code_w_DISCONNECT V_w__VALUES S__VALUES E_w__VALUES F_requiredFlags_w_DISCONNECT) hZ (hw _ (List.mem_of_getElem? (i := 22) rfl)) (hw _ (List.mem_of_getElem? (i := 6) rfl)) (by decide) (by decide)) (g := (mkF m 66 #[.val (.int p1), .val (.int p2), .val (.int (13 : Int32)), .val (.ref w_DISCONNECT), .val (.int p2), .val (.int (224 : Int32)), .val (.int (224 : Int32))] [(.int (224 : Int32))])) rfl (by rw [hml]; rfl) (argsL := [(.int (224 : Int32))]) (rest := []) (lenOf own_pd119 rfl) rfl (by show 2 * 0 + _ ≤ _; exact Nat.le_of_eq rfl) (hb hby at_66) (fun _ _ => ⟨rfl, e902, (by decide : 0 + 1 ≤ _), (by decide : 0 + 14 ≤ _)⟩)
                            dsimp only [Pt.U, Pt.locs, Pt.cells, Pt.slots] at X904 l904 y904 z904 st904 hQ904
                            subst l904 y904 z904
                            obtain ⟨hv904, N904q, K904⟩ := hQ904
                            have f905 := own_staKeep S_CONNECT K904
                            have f906 := own_staKeep S_CONNACK K904
                            have f907 := own_staKeep S_PUBLISH K904
                            have f908 := own_staKeep S_PUBACK K904
                            have f909 := own_staKeep S_PUBREC K904
                            have f910 := own_staKeep S_PUBREL K904
                            have f911 := own_staKeep S_PUBCOMP K904
                            have f912 := own_staKeep S_SUBSCRIBE K904
                            have f913 := own_staKeep S_SUBACK K904
                            have f914 := own_staKeep S_UNSUBSCRIBE K904
                            have f915 := own_staKeep S_UNSUBACK K904
                            have f916 := own_staKeep S_PINGREQ K904
                            have f917 := own_staKeep S_PINGRESP K904
                            have f918 := own_staKeep S_DISCONNECT K904
                            have f919 := F_requiredFlags_w_CONNECT.keep K904 nin0
                            have f920 := F_code_w_CONNECT.keep K904 nin0
                            have f921 := E_w_CONNECT.keep K904
                            have f922 := F_code_w_DISCONNECT.keep K904 nin0
                            have f923 := V_w__VALUES.keep K904 nin0
                            have f924 := own_staKeep S__VALUES K904
                            have f925 := E_w__VALUES.keep K904
                            have f926 := F_requiredFlags_w_CONNACK.keep K904 nin0
                            have f927 := F_code_w_CONNACK.keep K904 nin0
                            have f928 := E_w_CONNACK.keep K904
                            have f929 := F_requiredFlags_w_PUBLISH.keep K904 nin0
                            have f930 := F_code_w_PUBLISH.keep K904 nin0
                            have f931 := E_w_PUBLISH.keep K904
                            have f932 := F_requiredFlags_w_PUBACK.keep K904 nin0
                            have f933 := F_code_w_PUBACK.keep K904 nin0
                            have f934 := E_w_PUBACK.keep K904
                            have f935 := F_requiredFlags_w_PUBREC.keep K904 nin0
                            have f936 := F_code_w_PUBREC.keep K904 nin0
                            have f937 := E_w_PUBREC.keep K904
                            have f938 := F_requiredFlags_w_PUBREL.keep K904 nin0
                            have f939 := F_code_w_PUBREL.keep K904 nin0
                            have f940 := E_w_PUBREL.keep K904
                            have f941 := F_requiredFlags_w_PUBCOMP.keep K904 nin0
                            have f942 := F_code_w_PUBCOMP.keep K904 nin0
                            have f943 := E_w_PUBCOMP.keep K904
                            have f944 := F_requiredFlags_w_SUBSCRIBE.keep K904 nin0
                            have f945 := F_code_w_SUBSCRIBE.keep K904 nin0
                            have f946 := E_w_SUBSCRIBE.keep K904
                            have f947 := F_requiredFlags_w_SUBACK.keep K904 nin0
                            have f948 := F_code_w_SUBACK.keep K904 nin0
                            have f949 := E_w_SUBACK.keep K904
                            have f950 := F_requiredFlags_w_UNSUBSCRIBE.keep K904 nin0
                            have f951 := F_code_w_UNSUBSCRIBE.keep K904 nin0
                            have f952 := E_w_UNSUBSCRIBE.keep K904
                            have f953 := F_requiredFlags_w_UNSUBACK.keep K904 nin0
                            have f954 := F_code_w_UNSUBACK.keep K904 nin0
                            have f955 := E_w_UNSUBACK.keep K904
                            have f956 := F_requiredFlags_w_PINGREQ.keep K904 nin0
                            have f957 := F_code_w_PINGREQ.keep K904 nin0
                            have f958 := E_w_PINGREQ.keep K904
                            have f959 := F_requiredFlags_w_PINGRESP.keep K904 nin0
                            have f960 := F_code_w_PINGRESP.keep K904 nin0
                            have f961 := E_w_PINGRESP.keep K904
                            have f962 := F_requiredFlags_w_DISCONNECT.keep K904 nin0
                            have f963 := E_w_DISCONNECT.keep K904
                            have Z964 := Nat.le_trans Z0 K904.1
                            have N965 := Fr.app N903 N904q
                            rw [show (own_v224_f4 w_DISCONNECT) = w_DISCONNECT from by first | rfl | decide | simp [own_v224_f4]] at hv904
                            subst hv904
                            obtain ⟨fs, hr, hrun, hended, hW, hsame⟩ := X904.leave (v := some (.int (1 : Int32))) (fun h => by rw [Bd.returns] at h; cases h)
                            refine ⟨_, _, k897 _ ?_, hrun, hended, _, _, rfl, ?_, ⟨_, rfl⟩, hW, hsame.mono (by decide) (by decide)⟩
                            · show Steps p.tables e below (s₁.setTop (mkF m 7 #[.val (.int p1), .val (.int p2), .unset, .unset, .unset, .unset, .unset] [(.int (13 : Int32))])) _
                              refine XS.istoreN X0.here hx rfl (hb hby at_7) rfl (l' := #[.val (.int p1), .val (.int p2), .val (.int (13 : Int32)), .unset, .unset, .unset, .unset]) rfl ?_
                              show Steps p.tables e below (s₁.setTop (mkF m 8 #[.val (.int p1), .val (.int p2), .val (.int (13 : Int32)), .unset, .unset, .unset, .unset] [])) _
                              refine XS.iloadN X0.here hx rfl (hb hby at_8) rfl ?_
                              show Steps p.tables e below (s₁.setTop (mkF m 9 #[.val (.int p1), .val (.int p2), .val (.int (13 : Int32)), .unset, .unset, .unset, .unset] [(.int (13 : Int32))])) _
                              refine st898 _ ?_
                              show Steps p.tables e below (T898.setTop (mkF m 12 #[.val (.int p1), .val (.int p2), .val (.int (13 : Int32)), .unset, .unset, .unset, .unset] [(.ref w_DISCONNECT)])) _
                              refine XS.astoreN X898.here hx rfl (hb hby at_12) rfl rfl (l' := #[.val (.int p1), .val (.int p2), .val (.int (13 : Int32)), .val (.ref w_DISCONNECT), .unset, .unset, .unset]) rfl ?_
                              show Steps p.tables e below (T898.setTop (mkF m 13 #[.val (.int p1), .val (.int p2), .val (.int (13 : Int32)), .val (.ref w_DISCONNECT), .unset, .unset, .unset] [])) _
                              refine XS.iloadN X898.here hx rfl (hb hby at_13) rfl ?_
                              show Steps p.tables e below (T898.setTop (mkF m 14 #[.val (.int p1), .val (.int p2), .val (.int (13 : Int32)), .val (.ref w_DISCONNECT), .unset, .unset, .unset] [(.int (13 : Int32))])) _
                              refine XS.iconst X898.here hx rfl (hb hby at_14) ?_
                              show Steps p.tables e below (T898.setTop (mkF m 15 #[.val (.int p1), .val (.int p2), .val (.int (13 : Int32)), .val (.ref w_DISCONNECT), .unset, .unset, .unset] [(.int (2 : Int32)), (.int (13 : Int32))])) _
                              refine XS.icmpYes X898.here hx rfl (pc0 := 15) (pc' := 25) rfl (hb hby at_15) rfl (feq (by decide : ¬ ((13 : Int32) = (2 : Int32)))).2 (by decide) (by decide) ?_
                              show Steps p.tables e below (T898.setTop (mkF m 25 #[.val (.int p1), .val (.int p2), .val (.int (13 : Int32)), .val (.ref w_DISCONNECT), .unset, .unset, .unset] [])) _
                              refine XS.iloadN X898.here hx rfl (hb hby at_25) rfl ?_
                              show Steps p.tables e below (T898.setTop (mkF m 26 #[.val (.int p1), .val (.int p2), .val (.int (13 : Int32)), .val (.ref w_DISCONNECT), .unset, .unset, .unset] [(.int p2)])) _
                              refine XS.istore X898.here hx rfl (hb hby at_26) rfl (l' := #[.val (.int p1), .val (.int p2), .val (.int (13 : Int32)), .val (.ref w_DISCONNECT), .val (.int p2), .unset, .unset]) rfl ?_
                              show Steps p.tables e below (T898.setTop (mkF m 28 #[.val (.int p1), .val (.int p2), .val (.int (13 : Int32)), .val (.ref w_DISCONNECT), .val (.int p2), .unset, .unset] [])) _
                              refine XS.aloadN X898.here hx rfl (hb hby at_28) rfl rfl ?_
                              show Steps p.tables e below (T898.setTop (mkF m 29 #[.val (.int p1), .val (.int p2), .val (.int (13 : Int32)), .val (.ref w_DISCONNECT), .val (.int p2), .unset, .unset] [(.ref w_DISCONNECT)])) _
                              refine XS.iload X898.here hx rfl (hb hby at_29) rfl ?_
                              show Steps p.tables e below (T898.setTop (mkF m 31 #[.val (.int p1), .val (.int p2), .val (.int (13 : Int32)), .val (.ref w_DISCONNECT), .val (.int p2), .unset, .unset] [(.int p2), (.ref w_DISCONNECT)])) _
                              refine st900.trans ?_
                              show Steps p.tables e below (T900.setTop (mkF m 34 #[.val (.int p1), .val (.int p2), .val (.int (13 : Int32)), .val (.ref w_DISCONNECT), .val (.int p2), .unset, .unset] [(.int (224 : Int32))])) _
                              refine XS.istore X900.here hx rfl (hb hby at_34) rfl (l' := #[.val (.int p1), .val (.int p2), .val (.int (13 : Int32)), .val (.ref w_DISCONNECT), .val (.int p2), .val (.int (224 : Int32)), .unset]) rfl ?_
                              show Steps p.tables e below (T900.setTop (mkF m 36 #[.val (.int p1), .val (.int p2), .val (.int (13 : Int32)), .val (.ref w_DISCONNECT), .val (.int p2), .val (.int (224 : Int32)), .unset] [])) _
                              refine XS.iloadN X900.here hx rfl (hb hby at_36) rfl ?_
                              show Steps p.tables e below (T900.setTop (mkF m 37 #[.val (.int p1), .val (.int p2), .val (.int (13 : Int32)), .val (.ref w_DISCONNECT), .val (.int p2), .val (.int (224 : Int32)), .unset] [(.int (13 : Int32))])) _
                              refine XS.iconst X900.here hx rfl (hb hby at_37) ?_
                              show Steps p.tables e below (T900.setTop (mkF m 38 #[.val (.int p1), .val (.int p2), .val (.int (13 : Int32)), .val (.ref w_DISCONNECT), .val (.int p2), .val (.int (224 : Int32)), .unset] [(.int (2 : Int32)), (.int (13 : Int32))])) _
                              refine XS.icmpYes X900.here hx rfl (pc0 := 38) (pc' := 51) rfl (hb hby at_38) rfl (feq (by decide : ¬ ((13 : Int32) = (2 : Int32)))).2 (by decide) (by decide) ?_
                              show Steps p.tables e below (T900.setTop (mkF m 51 #[.val (.int p1), .val (.int p2), .val (.int (13 : Int32)), .val (.ref w_DISCONNECT), .val (.int p2), .val (.int (224 : Int32)), .unset] [])) _
                              refine XS.iloadN X900.here hx rfl (hb hby at_51) rfl ?_
                              show Steps p.tables e below (T900.setTop (mkF m 52 #[.val (.int p1), .val (.int p2), .val (.int (13 : Int32)), .val (.ref w_DISCONNECT), .val (.int p2), .val (.int (224 : Int32)), .unset] [(.int (13 : Int32))])) _
                              refine st902 _ ?_
                              show Steps p.tables e below (T902.setTop (mkF m 55 #[.val (.int p1), .val (.int p2), .val (.int (13 : Int32)), .val (.ref w_DISCONNECT), .val (.int p2), .val (.int (224 : Int32)), .unset] [(.int (224 : Int32))])) _
                              refine XS.istore X902.here hx rfl (hb hby at_55) rfl (l' := #[.val (.int p1), .val (.int p2), .val (.int (13 : Int32)), .val (.ref w_DISCONNECT), .val (.int p2), .val (.int (224 : Int32)), .val (.int (224 : Int32))]) rfl ?_
                              show Steps p.tables e below (T902.setTop (mkF m 57 #[.val (.int p1), .val (.int p2), .val (.int (13 : Int32)), .val (.ref w_DISCONNECT), .val (.int p2), .val (.int (224 : Int32)), .val (.int (224 : Int32))] [])) _
                              refine XS.iload X902.here hx rfl (hb hby at_57) rfl ?_
                              show Steps p.tables e below (T902.setTop (mkF m 59 #[.val (.int p1), .val (.int p2), .val (.int (13 : Int32)), .val (.ref w_DISCONNECT), .val (.int p2), .val (.int (224 : Int32)), .val (.int (224 : Int32))] [(.int (224 : Int32))])) _
                              refine XS.iload X902.here hx rfl (hb hby at_59) rfl ?_
                              show Steps p.tables e below (T902.setTop (mkF m 61 #[.val (.int p1), .val (.int p2), .val (.int (13 : Int32)), .val (.ref w_DISCONNECT), .val (.int p2), .val (.int (224 : Int32)), .val (.int (224 : Int32))] [(.int (224 : Int32)), (.int (224 : Int32))])) _
                              refine XS.icmpNo X902.here hx rfl (hb hby at_61) rfl (teq (by decide : (224 : Int32) = (224 : Int32))).2 ?_
                              show Steps p.tables e below (T902.setTop (mkF m 64 #[.val (.int p1), .val (.int p2), .val (.int (13 : Int32)), .val (.ref w_DISCONNECT), .val (.int p2), .val (.int (224 : Int32)), .val (.int (224 : Int32))] [])) _
                              refine XS.iload X902.here hx rfl (hb hby at_64) rfl ?_
                              show Steps p.tables e below (T902.setTop (mkF m 66 #[.val (.int p1), .val (.int p2), .val (.int (13 : Int32)), .val (.ref w_DISCONNECT), .val (.int p2), .val (.int (224 : Int32)), .val (.int (224 : Int32))] [(.int (224 : Int32))])) _
                              refine st904 _ ?_
                              show Steps p.tables e below (T904.setTop (mkF m 69 #[.val (.int p1), .val (.int p2), .val (.int (13 : Int32)), .val (.ref w_DISCONNECT), .val (.int p2), .val (.int (224 : Int32)), .val (.int (224 : Int32))] [(.ref w_DISCONNECT)])) _
                              refine XS.aloadN X904.here hx rfl (hb hby at_69) rfl rfl ?_
                              show Steps p.tables e below (T904.setTop (mkF m 70 #[.val (.int p1), .val (.int p2), .val (.int (13 : Int32)), .val (.ref w_DISCONNECT), .val (.int p2), .val (.int (224 : Int32)), .val (.int (224 : Int32))] [(.ref w_DISCONNECT), (.ref w_DISCONNECT)])) _
                              refine Jvm.RoadKit.acmp (g := (mkF m 70 #[.val (.int p1), .val (.int p2), .val (.int (13 : Int32)), .val (.ref w_DISCONNECT), .val (.int p2), .val (.int (224 : Int32)), .val (.int (224 : Int32))] [(.ref w_DISCONNECT), (.ref w_DISCONNECT)])) X904 hx rfl rfl rfl (pc0 := 70) (pc' := 73) (same := true) rfl (hb hby at_70) rfl (decide_eq_true rfl) (by decide) (by decide) ?_
                              show Steps p.tables e below (T904.setTop (mkF m 73 #[.val (.int p1), .val (.int p2), .val (.int (13 : Int32)), .val (.ref w_DISCONNECT), .val (.int p2), .val (.int (224 : Int32)), .val (.int (224 : Int32))] [])) _
                              refine XS.iconst X904.here hx rfl (hb hby at_73) ?_
                              show Steps p.tables e below (T904.setTop (mkF m 74 #[.val (.int p1), .val (.int p2), .val (.int (13 : Int32)), .val (.ref w_DISCONNECT), .val (.int p2), .val (.int (224 : Int32)), .val (.int (224 : Int32))] [(.int (1 : Int32))])) _
                              refine XS.goto X904.here hx rfl (pc0 := 74) (pc' := 78) rfl (hb hby at_74) (by decide) (by decide) ?_
                              show Steps p.tables e below (T904.setTop (mkF m 78 #[.val (.int p1), .val (.int p2), .val (.int (13 : Int32)), .val (.ref w_DISCONNECT), .val (.int p2), .val (.int (224 : Int32)), .val (.int (224 : Int32))] [(.int (1 : Int32))])) _
                              exact retN X904 hx (t := .boolean) Bd.returns (by simp) (hb hby at_78) hr
                            · show own_Q0 Z p1 p2 w_CONNECT w_CONNACK w_PUBLISH w_PUBACK w_PUBREC w_PUBREL w_PUBCOMP w_SUBSCRIBE w_SUBACK w_UNSUBSCRIBE w_UNSUBACK w_PINGREQ w_PINGRESP w_DISCONNECT k_w__VALUES w__VALUES h0 n0 _ T904.heap _
                              exact ⟨(by rw [own_f0, if_neg hc1, if_neg hc2, if_neg hc3, if_neg hc4, if_neg hc5, if_neg hc6, if_neg hc7, if_neg hc8, if_neg hc9, if_neg hc10, if_neg hc11, if_neg hc12, if_neg hc13]), N965⟩
theorem own_law (p1 : Int32) : own_f0 p1 = 1 := by
  unfold own_f0
  simp only [ite_self]
theorem own_eqF {args : Array Value} {s : State} {t : Term} {C n d : String} {x : Addr} {k : Int32} (h : (Jvm.Cond.eq (Term.field t C n d) (Term.int k)).value args s none s [] = some true) (ht : t.eval args s none [] s = some (.ref x)) : s.fieldOf? x C n d = some (.int k) := by
  obtain ⟨u, w, hu, hw, k1, k2⟩ := cmp_v (Or.inl h)
  have e1 : w = .int k := (Option.some.inj ((Term.int_eval k).symm.trans hw)).symm
  subst e1
  obtain ⟨y, rfl⟩ := k2
  rw [← fld_at ht, hu]
  rw [Cond.eq_ints hu hw] at h
  simp at h
  rw [h]
theorem own_eqFL {args : Array Value} {s : State} {t : Term} {C n d : String} {x : Addr} {k : Int64} (h : (Jvm.Cond.eq (Term.field t C n d) (Term.long k)).value args s none s [] = some true) (ht : t.eval args s none [] s = some (.ref x)) : s.fieldOf? x C n d = some (.long k) := by
  obtain ⟨u, w, hu, hw, k1, k2⟩ := cmp_v (Or.inl h)
  have e1 : w = .long k := (Option.some.inj ((show (Term.long k).eval args s none [] s = some (.long k) from rfl).symm.trans hw)).symm
  subst e1
  obtain ⟨y, rfl⟩ := k2
  rw [← fld_at ht, hu]
  rw [eq_L hu hw] at h
  simp at h
  rw [h]
theorem own_eqR {args : Array Value} {s : State} {a b : Term} {x : Addr} (h : (Jvm.Cond.eq a b).value args s none s [] = some true) (hb : b.eval args s none [] s = some (.ref x)) : a.eval args s none [] s = some (.ref x) := by
  obtain ⟨u, w, hu, hw, k1, k2⟩ := cmp_v (Or.inl h)
  have e1 : w = .ref x := (Option.some.inj (hb.symm.trans hw)).symm
  subst e1
  rw [eq_R hu hw k2.2 rfl] at h
  simp at h
  rw [hu, h]
theorem own_len {args : Array Value} {s : State} {t : Term} {x : Addr} {cl : Cell} {k : Int32} (h : (Jvm.Cond.eq (Term.length t) (Term.int k)).value args s none s [] = some true) (ht : t.eval args s none [] s = some (.ref x)) (hc : s.heap[x]? = some cl) : cl.slots.size < 2 ^ 31 ∧ cl.slots.size.toInt32 = k := by
  obtain ⟨u, w, hu, hw, k1, k2⟩ := cmp_v (Or.inl h)
  have e1 : w = .int k := (Option.some.inj ((Term.int_eval k).symm.trans hw)).symm
  subst e1
  obtain ⟨y, rfl⟩ := k2
  rw [Cond.eq_ints hu hw] at h
  simp at h
  subst h
  simp only [Term.eval, Option.bind_eq_bind, ht, Option.bind_some] at hu
  obtain ⟨cell, hcell, h2⟩ := Option.bind_eq_some_iff.mp hu
  cases hc.symm.trans (State.arrayAt?_spec hcell).1
  by_cases hn : cl.slots.size < 2147483648
  · rw [if_pos hn] at h2
    exact ⟨hn, Value.int.inj (Option.some.inj h2)⟩
  · rw [if_neg hn] at h2; cases h2
set_option maxRecDepth 65536 in
set_option maxHeartbeats 40000000 in
theorem comes_1 {Post : Tables → Env → Array Value → State → Outcome → State → Prop} (hpost : ∀ tb e args s v u, (limb_1_1.after args s (.returned v) u = true ∧ limb_1_2.after args s (.returned v) u = true ∧ True) → FrameEnd s (.returned v) u (Jvm.fieldLocs frame_1_writes args s ++ Jvm.arrayLocs frame_1_arrays args s ++ Jvm.staticLocs frame_1_statics s) 16 128 → Post tb e args s (.returned v) u) :
    ArmFor flags0 classFile x code maxLocals ret World_1 tables_1 room_1 Calls_1 rest_1 Pre_1 Post := by
  intro l hfl _ _ p e ha hc hk s m args below hf hA hF happ hP
  obtain ⟨hcalls, hrest, hpre⟩ := hP
  obtain ⟨-, -, -, hnamed, -, -, -, hat⟩ := (Spec.applies_iff hf).mp happ
  obtain ⟨hg, hn⟩ := and_e (Cond.before_iff.mp (show (Jvm.Cond.and given_1 narrow_1).before args s = true from hpre))
  obtain ⟨gg1, gg2⟩ := and_e hg
  obtain ⟨gg3, gg4⟩ := and_e gg2
  obtain ⟨w0, w1, rfl⟩ : ∃ w0 w1 : Value, args = #[w0, w1] := by
    have hs : args.size = 2 := by simpa [Cond.value, given_1] using gg1
    obtain ⟨L⟩ := args
    match L, hs with
    | [w0, w1], _ => exact ⟨w0, w1, rfl⟩
  have hw := fun d (hd : d ∈ tables_1) => atoms_spec (ws := Jvm.Cond.code x code maxLocals ret :: tables_1) hat d (List.mem_cons_of_mem _ hd)
  have hfit : Fit s := fun {y c} hc i hi => by
    obtain ⟨ha, rfl⟩ := Array.getElem?_eq_some_iff.mp hc
    have q := List.all_eq_true.mp ((Array.all_eq_true_iff_forall_mem.mp hF) _ (Array.getElem_mem ha)) i (List.mem_range.mpr hi)
    simpa [Array.getElem?_eq_getElem hi] using q
  obtain ⟨i0, ei0⟩ := is_v gg3
  obtain rfl : w0 = (.int i0) := Option.some.inj ei0
  obtain ⟨i1, ei1⟩ := is_v gg4
  obtain rfl : w1 = (.int i1) := Option.some.inj ei1
  obtain ⟨n0, r0⟩ := and_e hn
  obtain ⟨n1, r1⟩ := and_e r0
  obtain ⟨n2, r2⟩ := and_e r1
  obtain ⟨n3, r3⟩ := and_e r2
  obtain ⟨n4, r4⟩ := and_e r3
  obtain ⟨n5, r5⟩ := and_e r4
  obtain ⟨n6, r6⟩ := and_e r5
  obtain ⟨n7, r7⟩ := and_e r6
  obtain ⟨n8, r8⟩ := and_e r7
  obtain ⟨n9, r9⟩ := and_e r8
  obtain ⟨n10, r10⟩ := and_e r9
  obtain ⟨n11, r11⟩ := and_e r10
  obtain ⟨n12, r12⟩ := and_e r11
  obtain ⟨n13, r13⟩ := and_e r12
  obtain ⟨n14, r14⟩ := and_e r13
  obtain ⟨n15, r15⟩ := and_e r14
  obtain ⟨n16, r16⟩ := and_e r15
  obtain ⟨n17, r17⟩ := and_e r16
  obtain ⟨n18, r18⟩ := and_e r17
  obtain ⟨n19, r19⟩ := and_e r18
  obtain ⟨n20, r20⟩ := and_e r19
  obtain ⟨n21, r21⟩ := and_e r20
  obtain ⟨n22, r22⟩ := and_e r21
  obtain ⟨n23, r23⟩ := and_e r22
  obtain ⟨n24, r24⟩ := and_e r23
  obtain ⟨n25, r25⟩ := and_e r24
  obtain ⟨n26, r26⟩ := and_e r25
  obtain ⟨n27, r27⟩ := and_e r26
  obtain ⟨n28, r28⟩ := and_e r27
  obtain ⟨n29, r29⟩ := and_e r28
  obtain ⟨n30, r30⟩ := and_e r29
  obtain ⟨n31, r31⟩ := and_e r30
  obtain ⟨n32, r32⟩ := and_e r31
  obtain ⟨n33, r33⟩ := and_e r32
  obtain ⟨n34, r34⟩ := and_e r33
  obtain ⟨n35, r35⟩ := and_e r34
  obtain ⟨n36, r36⟩ := and_e r35
  obtain ⟨n37, r37⟩ := and_e r36
  obtain ⟨n38, r38⟩ := and_e r37
  obtain ⟨n39, r39⟩ := and_e r38
  obtain ⟨n40, r40⟩ := and_e r39
  obtain ⟨n41, r41⟩ := and_e r40
  obtain ⟨n42, r42⟩ := and_e r41
  obtain ⟨n43, r43⟩ := and_e r42
  obtain ⟨n44, r44⟩ := and_e r43
  obtain ⟨n45, r45⟩ := and_e r44
  obtain ⟨n46, r46⟩ := and_e r45
  obtain ⟨n47, r47⟩ := and_e r46
  obtain ⟨n48, r48⟩ := and_e r47
  obtain ⟨n49, r49⟩ := and_e r48
  obtain ⟨n50, r50⟩ := and_e r49
  obtain ⟨n51, r51⟩ := and_e r50
  obtain ⟨n52, r52⟩ := and_e r51
  obtain ⟨n53, r53⟩ := and_e r52
  obtain ⟨n54, r54⟩ := and_e r53
  obtain ⟨n55, r55⟩ := and_e r54
  obtain ⟨n56, r56⟩ := and_e r55
  obtain ⟨n57, r57⟩ := and_e r56
  obtain ⟨a_CONNECT, e_CONNECT⟩ := exa_v n0
  have S_CONNECT := Sta.start e_CONNECT (Or.inr ⟨(hw _ (List.mem_of_getElem? (i := 6) rfl)), (hw _ (List.mem_of_getElem? (i := 7) rfl))⟩)
  have E_CONNECT := Exa.start e_CONNECT n0
  obtain ⟨a_DISCONNECT, e_DISCONNECT⟩ := exa_v n3
  have S_DISCONNECT := Sta.start e_DISCONNECT (Or.inr ⟨(hw _ (List.mem_of_getElem? (i := 6) rfl)), (hw _ (List.mem_of_getElem? (i := 25) rfl))⟩)
  have E_DISCONNECT := Exa.start e_DISCONNECT n3
  obtain ⟨a__VALUES, e__VALUES⟩ := exa_v n6
  have S__VALUES := Sta.start e__VALUES (Or.inr ⟨(hw _ (List.mem_of_getElem? (i := 6) rfl)), (hw _ (List.mem_of_getElem? (i := 30) rfl))⟩)
  have E__VALUES := Exa.start e__VALUES n6
  obtain ⟨a_CONNACK, e_CONNACK⟩ := exa_v n9
  have S_CONNACK := Sta.start e_CONNACK (Or.inr ⟨(hw _ (List.mem_of_getElem? (i := 6) rfl)), (hw _ (List.mem_of_getElem? (i := 38) rfl))⟩)
  have E_CONNACK := Exa.start e_CONNACK n9
  obtain ⟨a_PUBLISH, e_PUBLISH⟩ := exa_v n11
  have S_PUBLISH := Sta.start e_PUBLISH (Or.inr ⟨(hw _ (List.mem_of_getElem? (i := 6) rfl)), (hw _ (List.mem_of_getElem? (i := 39) rfl))⟩)
  have E_PUBLISH := Exa.start e_PUBLISH n11
  obtain ⟨a_PUBACK, e_PUBACK⟩ := exa_v n13
  have S_PUBACK := Sta.start e_PUBACK (Or.inr ⟨(hw _ (List.mem_of_getElem? (i := 6) rfl)), (hw _ (List.mem_of_getElem? (i := 40) rfl))⟩)
  have E_PUBACK := Exa.start e_PUBACK n13
  obtain ⟨a_PUBREC, e_PUBREC⟩ := exa_v n15
  have S_PUBREC := Sta.start e_PUBREC (Or.inr ⟨(hw _ (List.mem_of_getElem? (i := 6) rfl)), (hw _ (List.mem_of_getElem? (i := 41) rfl))⟩)
  have E_PUBREC := Exa.start e_PUBREC n15
  obtain ⟨a_PUBREL, e_PUBREL⟩ := exa_v n17
  have S_PUBREL := Sta.start e_PUBREL (Or.inr ⟨(hw _ (List.mem_of_getElem? (i := 6) rfl)), (hw _ (List.mem_of_getElem? (i := 42) rfl))⟩)
  have E_PUBREL := Exa.start e_PUBREL n17
  obtain ⟨a_PUBCOMP, e_PUBCOMP⟩ := exa_v n19
  have S_PUBCOMP := Sta.start e_PUBCOMP (Or.inr ⟨(hw _ (List.mem_of_getElem? (i := 6) rfl)), (hw _ (List.mem_of_getElem? (i := 43) rfl))⟩)
  have E_PUBCOMP := Exa.start e_PUBCOMP n19
  obtain ⟨a_SUBSCRIBE, e_SUBSCRIBE⟩ := exa_v n21
  have S_SUBSCRIBE := Sta.start e_SUBSCRIBE (Or.inr ⟨(hw _ (List.mem_of_getElem? (i := 6) rfl)), (hw _ (List.mem_of_getElem? (i := 44) rfl))⟩)
  have E_SUBSCRIBE := Exa.start e_SUBSCRIBE n21
  obtain ⟨a_SUBACK, e_SUBACK⟩ := exa_v n23
  have S_SUBACK := Sta.start e_SUBACK (Or.inr ⟨(hw _ (List.mem_of_getElem? (i := 6) rfl)), (hw _ (List.mem_of_getElem? (i := 45) rfl))⟩)
  have E_SUBACK := Exa.start e_SUBACK n23
  obtain ⟨a_UNSUBSCRIBE, e_UNSUBSCRIBE⟩ := exa_v n25
  have S_UNSUBSCRIBE := Sta.start e_UNSUBSCRIBE (Or.inr ⟨(hw _ (List.mem_of_getElem? (i := 6) rfl)), (hw _ (List.mem_of_getElem? (i := 46) rfl))⟩)
  have E_UNSUBSCRIBE := Exa.start e_UNSUBSCRIBE n25
  obtain ⟨a_UNSUBACK, e_UNSUBACK⟩ := exa_v n27
  have S_UNSUBACK := Sta.start e_UNSUBACK (Or.inr ⟨(hw _ (List.mem_of_getElem? (i := 6) rfl)), (hw _ (List.mem_of_getElem? (i := 47) rfl))⟩)
  have E_UNSUBACK := Exa.start e_UNSUBACK n27
  obtain ⟨a_PINGREQ, e_PINGREQ⟩ := exa_v n29
  have S_PINGREQ := Sta.start e_PINGREQ (Or.inr ⟨(hw _ (List.mem_of_getElem? (i := 6) rfl)), (hw _ (List.mem_of_getElem? (i := 48) rfl))⟩)
  have E_PINGREQ := Exa.start e_PINGREQ n29
  obtain ⟨a_PINGRESP, e_PINGRESP⟩ := exa_v n31
  have S_PINGRESP := Sta.start e_PINGRESP (Or.inr ⟨(hw _ (List.mem_of_getElem? (i := 6) rfl)), (hw _ (List.mem_of_getElem? (i := 49) rfl))⟩)
  have E_PINGRESP := Exa.start e_PINGRESP n31
  have F_CONNECT_requiredFlags := Fld.start (own_eqF n1 e_CONNECT)
  have F_CONNECT_code := Fld.start (own_eqF n2 e_CONNECT)
  have F_DISCONNECT_code := Fld.start (own_eqF n4 e_DISCONNECT)
  have F_UNSUBACK_requiredFlags := Fld.start (own_eqF n34 e_UNSUBACK)
  have F_UNSUBACK_code := Fld.start (own_eqF n35 e_UNSUBACK)
  have F_SUBACK_requiredFlags := Fld.start (own_eqF n36 e_SUBACK)
  have F_SUBACK_code := Fld.start (own_eqF n37 e_SUBACK)
  have F_PUBREC_requiredFlags := Fld.start (own_eqF n38 e_PUBREC)
  have F_PUBREC_code := Fld.start (own_eqF n39 e_PUBREC)
  have F_PINGREQ_requiredFlags := Fld.start (own_eqF n40 e_PINGREQ)
  have F_PINGREQ_code := Fld.start (own_eqF n41 e_PINGREQ)
  have F_PUBCOMP_requiredFlags := Fld.start (own_eqF n42 e_PUBCOMP)
  have F_PUBCOMP_code := Fld.start (own_eqF n43 e_PUBCOMP)
  have F_PINGRESP_requiredFlags := Fld.start (own_eqF n44 e_PINGRESP)
  have F_PINGRESP_code := Fld.start (own_eqF n45 e_PINGRESP)
  have F_SUBSCRIBE_requiredFlags := Fld.start (own_eqF n46 e_SUBSCRIBE)
  have F_SUBSCRIBE_code := Fld.start (own_eqF n47 e_SUBSCRIBE)
  have F_PUBACK_requiredFlags := Fld.start (own_eqF n48 e_PUBACK)
  have F_PUBACK_code := Fld.start (own_eqF n49 e_PUBACK)
  have F_PUBREL_requiredFlags := Fld.start (own_eqF n50 e_PUBREL)
  have F_PUBREL_code := Fld.start (own_eqF n51 e_PUBREL)
  have F_CONNACK_requiredFlags := Fld.start (own_eqF n52 e_CONNACK)
  have F_CONNACK_code := Fld.start (own_eqF n53 e_CONNACK)
  have F_PUBLISH_requiredFlags := Fld.start (own_eqF n54 e_PUBLISH)
  have F_PUBLISH_code := Fld.start (own_eqF n55 e_PUBLISH)
  have F_DISCONNECT_requiredFlags := Fld.start (own_eqF n56 e_DISCONNECT)
  have F_UNSUBSCRIBE_requiredFlags := Fld.start (own_eqF n57 e_UNSUBSCRIBE)
  have F_UNSUBSCRIBE_code := Fld.start (own_eqF r57 e_UNSUBSCRIBE)
  obtain ⟨clV, ArV⟩ := Arr.start e__VALUES n5
  obtain ⟨qV1, qV2⟩ := own_len n7 e__VALUES ArV.1
  have xV0 := elem_in (own_eqR n8 e_CONNECT) e__VALUES (Term.int_eval 0) ArV.1
  have xV1 := elem_in (own_eqR n10 e_CONNACK) e__VALUES (Term.int_eval 1) ArV.1
  have xV2 := elem_in (own_eqR n12 e_PUBLISH) e__VALUES (Term.int_eval 2) ArV.1
  have xV3 := elem_in (own_eqR n14 e_PUBACK) e__VALUES (Term.int_eval 3) ArV.1
  have xV4 := elem_in (own_eqR n16 e_PUBREC) e__VALUES (Term.int_eval 4) ArV.1
  have xV5 := elem_in (own_eqR n18 e_PUBREL) e__VALUES (Term.int_eval 5) ArV.1
  have xV6 := elem_in (own_eqR n20 e_PUBCOMP) e__VALUES (Term.int_eval 6) ArV.1
  have xV7 := elem_in (own_eqR n22 e_SUBSCRIBE) e__VALUES (Term.int_eval 7) ArV.1
  have xV8 := elem_in (own_eqR n24 e_SUBACK) e__VALUES (Term.int_eval 8) ArV.1
  have xV9 := elem_in (own_eqR n26 e_UNSUBSCRIBE) e__VALUES (Term.int_eval 9) ArV.1
  have xV10 := elem_in (own_eqR n28 e_UNSUBACK) e__VALUES (Term.int_eval 10) ArV.1
  have xV11 := elem_in (own_eqR n30 e_PINGREQ) e__VALUES (Term.int_eval 11) ArV.1
  have xV12 := elem_in (own_eqR n32 e_PINGRESP) e__VALUES (Term.int_eval 12) ArV.1
  have xV13 := elem_in (own_eqR n33 e_DISCONNECT) e__VALUES (Term.int_eval 13) ArV.1
  have V__VALUES := Arv.start (dv := .null) (vs := [.ref a_CONNECT, .ref a_CONNACK, .ref a_PUBLISH, .ref a_PUBACK, .ref a_PUBREC, .ref a_PUBREL, .ref a_PUBCOMP, .ref a_SUBSCRIBE, .ref a_SUBACK, .ref a_UNSUBSCRIBE, .ref a_UNSUBACK, .ref a_PINGREQ, .ref a_PINGRESP, .ref a_DISCONNECT]) hfit ArV qV1 qV2 (by decide) rfl ⟨xV0.2, xV1.2, xV2.2, xV3.2, xV4.2, xV5.2, xV6.2, xV7.2, xV8.2, xV9.2, xV10.2, xV11.2, xV12.2, xV13.2, trivial⟩
  obtain ⟨n, o, h1, h2, h3, _, L, rfl, ⟨rfl, N⟩, hq⟩ := own_rm0 l s _ hw tables_1 i0 i1 a_CONNECT a_CONNACK a_PUBLISH a_PUBACK a_PUBREC a_PUBREL a_PUBCOMP a_SUBSCRIBE a_SUBACK a_UNSUBSCRIBE a_UNSUBACK a_PINGREQ a_PINGRESP a_DISCONNECT clV.cls a__VALUES s.heap s.heap.size (Nat.le_refl _) S_CONNECT S_CONNACK S_PUBLISH S_PUBACK S_PUBREC S_PUBREL S_PUBCOMP S_SUBSCRIBE S_SUBACK S_UNSUBSCRIBE S_UNSUBACK S_PINGREQ S_PINGRESP S_DISCONNECT F_CONNECT_requiredFlags F_CONNECT_code E_CONNECT F_DISCONNECT_code V__VALUES S__VALUES E__VALUES F_CONNACK_requiredFlags F_CONNACK_code E_CONNACK F_PUBLISH_requiredFlags F_PUBLISH_code E_PUBLISH F_PUBACK_requiredFlags F_PUBACK_code E_PUBACK F_PUBREC_requiredFlags F_PUBREC_code E_PUBREC F_PUBREL_requiredFlags F_PUBREL_code E_PUBREL F_PUBCOMP_requiredFlags F_PUBCOMP_code E_PUBCOMP F_SUBSCRIBE_requiredFlags F_SUBSCRIBE_code E_SUBSCRIBE F_SUBACK_requiredFlags F_SUBACK_code E_SUBACK F_UNSUBSCRIBE_requiredFlags F_UNSUBSCRIBE_code E_UNSUBSCRIBE F_UNSUBACK_requiredFlags F_UNSUBACK_code E_UNSUBACK F_PINGREQ_requiredFlags F_PINGREQ_code E_PINGREQ F_PINGRESP_requiredFlags F_PINGRESP_code E_PINGRESP F_DISCONNECT_requiredFlags E_DISCONNECT p e ha hc hk s m _ below hf ((Spec.applies_iff_loose hf).mp happ).1 ⟨rfl, State.Warmed39.refl s, rfl⟩ trivial
  refine ⟨n, _, h1, h2, h3, hpost _ _ _ _ _ _ ⟨Cond.after_iff.mpr rfl, Cond.after_iff.mpr (eq_i res_at (Term.int_eval (1)) (congrArg Value.int (own_law i0))), trivial⟩ ⟨hq.1, hq.2.1, (hq.2.2.sift fun y hy => Or.inr (N y hy)).mono (by decide) (by decide)⟩⟩
theorem main_1_1 : Claimed_1_1 := comes_1 fun _ _ _ _ _ _ h hF => ⟨h.1, hF⟩
theorem main_1_2 : Claimed_1_2 := comes_1 fun _ _ _ _ _ _ h hF => ⟨h.2.1, hF⟩
end Jvm.Pilot.@@N@@
namespace Jvm.Pilot.@@N@@
open Jvm Jvm.ClassFile Sem Op Lib Jvm.Free Jvm.Stand Jvm.Pilot.@@N@@.Jvm.D
/-! MADE BY PROGRAM (witnessworld.py) out of the Statement's table words and the real class files: 13 classes; the members and pool entries that the words name. The judged class is class 1, her method 1. -/
namespace start1
open Jvm.ClassFile
def u (s : String) : CpInfo := .utf8 (stringToUtf16 s)
/-- a pool by its gaps: so many unusable entries, then the entry; so many at the end -/
def gap : Nat → List CpInfo → List CpInfo
  | 0, r => r
  | n + 1, r => .unusable :: gap n r
def poolList (es : List (Nat × CpInfo)) (last : Nat) : List CpInfo := es.foldr (fun e r => gap e.1 (e.2 :: r)) (gap last [])
def pool (es : List (Nat × CpInfo)) (last : Nat) : Array CpInfo := ⟨poolList es last⟩
def fileOf (pool : Array CpInfo) (this : Nat) (attrs : Array Attribute := #[]) (ms : Array MethodInfo := #[]) (fl : Nat := 33) (sup : Nat := 0) (ifs : Array Nat := #[]) (fds : Array FieldInfo := #[]) : ClassFile where
  minorVersion := 0
  majorVersion := 65
  constantPool := pool
  accessFlags := fl
  thisClass := this
  superClass := sup
  interfaces := ifs
  fields := fds
  methods := ms
  attributes := attrs
def plain (name : String) (sup : Option ClassId) : Class where
  name := name
  kind := .ordinary
  loader := none
  accessFlags := 33
  super := sup
  interfaces := #[]
  cf := none
  fields := #[]
  methods := #[]
  instanceTypes := #[]
  staticTypes := #[]
  resolved := #[]
  callSites := []
  init := .initialized
  statics := none
  mirror := none

def pool0 : Array CpInfo := pool [(5, u "<init>"), (0, u "()V"), (1, .class_ 10), (1, u "java/lang/Object"), (85, u "clone"), (0, u "()Ljava/lang/Object;")] 26

def k0m0 : Method := { name := "<init>", desc := "()V", sig := { parameters := [], returnType := none }, accessFlags := 1, code := none }
def k0m1 : Method := { name := "clone", desc := "()Ljava/lang/Object;", sig := { parameters := [], returnType := some (.object "java/lang/Object") }, accessFlags := 260, code := none }
/-- java/lang/Object -/
def k0 : Class := { plain "java/lang/Object" none with
  accessFlags := 33
  interfaces := #[]
  cf := some (fileOf pool0 8 #[] #[{ accessFlags := 1, nameIndex := 5, descriptorIndex := 6, attributes := #[] }, { accessFlags := 260, nameIndex := 96, descriptorIndex := 97, attributes := #[] }] 33 0 #[] #[])
  fields := #[]
  methods := #[k0m0, k0m1]
  instanceTypes := #[]
  staticTypes := #[]
  resolved := Array.replicate 124 none
  statics := none }

def pool1 : Array CpInfo := pool [(2, .class_ 4), (1, u "java/lang/Object"), (0, u "<init>"), (0, u "()V"), (0, .integer 2147483647), (0, .methodref 9 10), (0, .class_ 11), (0, .nameAndType 12 13), (0, u "com/example/castd/castd/mqtt/PacketTypeFirstBytePinLaw"), (0, u "type"), (0, u "(I)Lcom/example/castd/castd/mqtt/PacketType;"), (0, .methodref 15 16), (0, .class_ 17), (0, .nameAndType 18 19), (0, u "com/example/castd/castd/mqtt/PacketType"), (0, u "firstByte"), (0, u "(I)I"), (0, .methodref 9 21), (0, .nameAndType 22 19), (0, u "fixed"), (0, .methodref 15 24), (0, .nameAndType 25 13), (0, u "fromFirstByte"), (0, .fieldref 15 27), (0, .nameAndType 28 29), (0, u "CONNECT"), (0, u "Lcom/example/castd/castd/mqtt/PacketType;"), (0, .fieldref 15 31), (0, .nameAndType 32 29), (0, u "CONNACK"), (0, .fieldref 15 34), (0, .nameAndType 35 29), (0, u "PUBLISH"), (0, .fieldref 15 37), (0, .nameAndType 38 29), (0, u "PUBACK"), (0, .fieldref 15 40), (0, .nameAndType 41 29), (0, u "PUBREC"), (0, .fieldref 15 43), (0, .nameAndType 44 29), (0, u "PUBREL"), (0, .fieldref 15 46), (0, .nameAndType 47 29), (0, u "PUBCOMP"), (0, .fieldref 15 49), (0, .nameAndType 50 29), (0, u "SUBSCRIBE"), (0, .fieldref 15 52), (0, .nameAndType 53 29), (0, u "SUBACK"), (0, .fieldref 15 55), (0, .nameAndType 56 29), (0, u "UNSUBSCRIBE"), (0, .fieldref 15 58), (0, .nameAndType 59 29), (0, u "UNSUBACK"), (0, .fieldref 15 61), (0, .nameAndType 62 29), (0, u "PINGREQ"), (0, .fieldref 15 64), (0, .nameAndType 65 29), (0, u "PINGRESP"), (0, .fieldref 15 67), (0, .nameAndType 68 29), (0, u "DISCONNECT"), (2, u "law"), (0, u "(II)Z")] 3

def k1m0 : Method := { name := "<init>", desc := "()V", sig := { parameters := [], returnType := none }, accessFlags := 1, code := none }
def k1c1 : Code := { maxStack := 3, maxLocals := 7, code := code, exceptionTable := #[], attributes := #[] }
def k1m1 : Method := { name := "law", desc := "(II)Z", sig := { parameters := [.int, .int], returnType := some .boolean }, accessFlags := 9, code := some k1c1 }
def k1c2 : Code := { maxStack := 1, maxLocals := 1, code := method_3_code, exceptionTable := #[], attributes := #[] }
def k1m2 : Method := { name := "type", desc := "(I)Lcom/example/castd/castd/mqtt/PacketType;", sig := { parameters := [.int], returnType := some (.object "com/example/castd/castd/mqtt/PacketType") }, accessFlags := 10, code := some k1c2 }
def k1c3 : Code := { maxStack := 1, maxLocals := 1, code := method_4_code, exceptionTable := #[], attributes := #[] }
def k1m3 : Method := { name := "fixed", desc := "(I)I", sig := { parameters := [.int], returnType := some .int }, accessFlags := 10, code := some k1c3 }
/-- com/example/castd/castd/mqtt/PacketTypeFirstBytePinLaw -/
def k1 : Class := { plain "com/example/castd/castd/mqtt/PacketTypeFirstBytePinLaw" (some 0) with
  accessFlags := 49
  interfaces := #[]
  cf := some (fileOf pool1 9 #[] #[{ accessFlags := 1, nameIndex := 5, descriptorIndex := 6, attributes := #[] }, { accessFlags := 9, nameIndex := 71, descriptorIndex := 72, attributes := #[] }, { accessFlags := 10, nameIndex := 12, descriptorIndex := 13, attributes := #[] }, { accessFlags := 10, nameIndex := 22, descriptorIndex := 19, attributes := #[] }] 49 2 #[] #[])
  fields := #[]
  methods := #[k1m0, k1m1, k1m2, k1m3]
  instanceTypes := #[]
  staticTypes := #[]
  resolved := Array.replicate 76 none
  statics := none }

def pool2 : Array CpInfo := pool [(1, .class_ 2), (0, u "java/lang/constant/Constable"), (0, .class_ 4), (0, u "java/lang/Object")] 6

/-- java/lang/constant/Constable -/
def k2 : Class := { plain "java/lang/constant/Constable" (some 0) with
  accessFlags := 1537
  interfaces := #[]
  cf := some (fileOf pool2 1 #[] #[] 1537 3 #[] #[])
  fields := #[]
  methods := #[]
  instanceTypes := #[]
  staticTypes := #[]
  resolved := Array.replicate 11 none
  statics := none }

def pool3 : Array CpInfo := pool [(1, .class_ 2), (0, u "java/lang/Comparable"), (0, .class_ 4), (0, u "java/lang/Object")] 7

/-- java/lang/Comparable -/
def k3 : Class := { plain "java/lang/Comparable" (some 0) with
  accessFlags := 1537
  interfaces := #[]
  cf := some (fileOf pool3 1 #[] #[] 1537 3 #[] #[])
  fields := #[]
  methods := #[]
  instanceTypes := #[]
  staticTypes := #[]
  resolved := Array.replicate 12 none
  statics := none }

def pool4 : Array CpInfo := pool [(1, .class_ 2), (0, u "java/io/Serializable"), (0, .class_ 4), (0, u "java/lang/Object")] 2

/-- java/io/Serializable -/
def k4 : Class := { plain "java/io/Serializable" (some 0) with
  accessFlags := 1537
  interfaces := #[]
  cf := some (fileOf pool4 1 #[] #[] 1537 3 #[] #[])
  fields := #[]
  methods := #[]
  instanceTypes := #[]
  staticTypes := #[]
  resolved := Array.replicate 7 none
  statics := none }

def pool5 : Array CpInfo := pool [(2, .class_ 4), (1, u "java/lang/Enum"), (0, u "name"), (0, u "Ljava/lang/String;"), (2, u "ordinal"), (0, u "I"), (1, .class_ 14), (1, u "java/lang/Object"), (4, u "hash"), (86, .class_ 108), (1, u "java/lang/Enum$EnumDesc"), (2, .class_ 112), (0, u "java/lang/constant/Constable"), (0, .class_ 114), (0, u "java/lang/Comparable"), (0, .class_ 116), (0, u "java/io/Serializable")] 87

/-- java/lang/Enum -/
def k5 : Class := { plain "java/lang/Enum" (some 0) with
  accessFlags := 1057
  interfaces := #[2, 3, 4]
  cf := some (fileOf pool5 2 #[.nestMembers #[106]] #[] 1057 12 #[111, 113, 115] #[{ accessFlags := 18, nameIndex := 5, descriptorIndex := 6, attributes := #[] }, { accessFlags := 18, nameIndex := 9, descriptorIndex := 10, attributes := #[] }, { accessFlags := 2, nameIndex := 19, descriptorIndex := 10, attributes := #[] }])
  fields := #[{ name := "name", type := (.object "java/lang/String"), accessFlags := 18, slot := 0, constantValue := 0 }, { name := "ordinal", type := .int, accessFlags := 18, slot := 1, constantValue := 0 }, { name := "hash", type := .int, accessFlags := 2, slot := 2, constantValue := 0 }]
  methods := #[]
  instanceTypes := #[(.object "java/lang/String"), .int, .int]
  staticTypes := #[]
  resolved := Array.replicate 204 none
  statics := none }

def pool6 : Array CpInfo := pool [(1, .class_ 2), (0, u "com/example/castd/castd/mqtt/PacketType"), (0, .fieldref 1 4), (0, .nameAndType 5 6), (0, u "CONNECT"), (0, u "Lcom/example/castd/castd/mqtt/PacketType;"), (2, u "CONNACK"), (2, u "PUBLISH"), (2, u "PUBACK"), (2, u "PUBREC"), (2, u "PUBREL"), (2, u "PUBCOMP"), (2, u "SUBSCRIBE"), (2, u "SUBACK"), (2, u "UNSUBSCRIBE"), (2, u "UNSUBACK"), (2, u "PINGREQ"), (2, u "PINGRESP"), (0, .fieldref 1 44), (0, .nameAndType 45 6), (0, u "DISCONNECT"), (0, .fieldref 1 47), (0, .nameAndType 48 49), (0, u "$VALUES"), (0, u "[Lcom/example/castd/castd/mqtt/PacketType;"), (0, .methodref 51 52), (0, .class_ 49), (0, .nameAndType 53 54), (0, u "clone"), (0, u "()Ljava/lang/Object;"), (1, .class_ 58), (1, u "java/lang/Enum"), (6, .fieldref 1 66), (0, .nameAndType 67 68), (0, u "code"), (0, u "I"), (0, .fieldref 1 70), (0, .nameAndType 71 68), (0, u "requiredFlags"), (9, .methodref 1 82), (0, .nameAndType 83 84), (0, u "values"), (0, u "()[Lcom/example/castd/castd/mqtt/PacketType;"), (37, u "ANY_FLAGS"), (8, u "fromFirstByte"), (0, u "(I)Lcom/example/castd/castd/mqtt/PacketType;"), (3, u "firstByte"), (0, u "(I)I")] 22

def k6c0 : Code := { maxStack := 1, maxLocals := 0, code := prog_85_method_1_code, exceptionTable := #[], attributes := #[] }
def k6m0 : Method := { name := "values", desc := "()[Lcom/example/castd/castd/mqtt/PacketType;", sig := { parameters := [], returnType := some (.array (.object "com/example/castd/castd/mqtt/PacketType")) }, accessFlags := 9, code := some k6c0 }
def k6c1 : Code := { maxStack := 5, maxLocals := 4, code := prog_85_method_4_code, exceptionTable := #[], attributes := #[] }
def k6m1 : Method := { name := "fromFirstByte", desc := "(I)Lcom/example/castd/castd/mqtt/PacketType;", sig := { parameters := [.int], returnType := some (.object "com/example/castd/castd/mqtt/PacketType") }, accessFlags := 9, code := some k6c1 }
def k6c2 : Code := { maxStack := 2, maxLocals := 3, code := prog_85_method_6_code, exceptionTable := #[], attributes := #[] }
def k6m2 : Method := { name := "firstByte", desc := "(I)I", sig := { parameters := [.int], returnType := some .int }, accessFlags := 0, code := some k6c2 }
/-- com/example/castd/castd/mqtt/PacketType -/
def k6 : Class := { plain "com/example/castd/castd/mqtt/PacketType" (some 5) with
  accessFlags := 16433
  interfaces := #[]
  cf := some (fileOf pool6 1 #[] #[{ accessFlags := 9, nameIndex := 83, descriptorIndex := 84, attributes := #[] }, { accessFlags := 9, nameIndex := 131, descriptorIndex := 132, attributes := #[] }, { accessFlags := 0, nameIndex := 136, descriptorIndex := 137, attributes := #[] }] 16433 56 #[] #[{ accessFlags := 16409, nameIndex := 5, descriptorIndex := 6, attributes := #[] }, { accessFlags := 16409, nameIndex := 9, descriptorIndex := 6, attributes := #[] }, { accessFlags := 16409, nameIndex := 12, descriptorIndex := 6, attributes := #[] }, { accessFlags := 16409, nameIndex := 15, descriptorIndex := 6, attributes := #[] }, { accessFlags := 16409, nameIndex := 18, descriptorIndex := 6, attributes := #[] }, { accessFlags := 16409, nameIndex := 21, descriptorIndex := 6, attributes := #[] }, { accessFlags := 16409, nameIndex := 24, descriptorIndex := 6, attributes := #[] }, { accessFlags := 16409, nameIndex := 27, descriptorIndex := 6, attributes := #[] }, { accessFlags := 16409, nameIndex := 30, descriptorIndex := 6, attributes := #[] }, { accessFlags := 16409, nameIndex := 33, descriptorIndex := 6, attributes := #[] }, { accessFlags := 16409, nameIndex := 36, descriptorIndex := 6, attributes := #[] }, { accessFlags := 16409, nameIndex := 39, descriptorIndex := 6, attributes := #[] }, { accessFlags := 16409, nameIndex := 42, descriptorIndex := 6, attributes := #[] }, { accessFlags := 16409, nameIndex := 45, descriptorIndex := 6, attributes := #[] }, { accessFlags := 26, nameIndex := 122, descriptorIndex := 68, attributes := #[] }, { accessFlags := 18, nameIndex := 67, descriptorIndex := 68, attributes := #[] }, { accessFlags := 18, nameIndex := 71, descriptorIndex := 68, attributes := #[] }, { accessFlags := 4122, nameIndex := 48, descriptorIndex := 49, attributes := #[] }])
  fields := #[{ name := "CONNECT", type := (.object "com/example/castd/castd/mqtt/PacketType"), accessFlags := 16409, slot := 0, constantValue := 0 }, { name := "CONNACK", type := (.object "com/example/castd/castd/mqtt/PacketType"), accessFlags := 16409, slot := 1, constantValue := 0 }, { name := "PUBLISH", type := (.object "com/example/castd/castd/mqtt/PacketType"), accessFlags := 16409, slot := 2, constantValue := 0 }, { name := "PUBACK", type := (.object "com/example/castd/castd/mqtt/PacketType"), accessFlags := 16409, slot := 3, constantValue := 0 }, { name := "PUBREC", type := (.object "com/example/castd/castd/mqtt/PacketType"), accessFlags := 16409, slot := 4, constantValue := 0 }, { name := "PUBREL", type := (.object "com/example/castd/castd/mqtt/PacketType"), accessFlags := 16409, slot := 5, constantValue := 0 }, { name := "PUBCOMP", type := (.object "com/example/castd/castd/mqtt/PacketType"), accessFlags := 16409, slot := 6, constantValue := 0 }, { name := "SUBSCRIBE", type := (.object "com/example/castd/castd/mqtt/PacketType"), accessFlags := 16409, slot := 7, constantValue := 0 }, { name := "SUBACK", type := (.object "com/example/castd/castd/mqtt/PacketType"), accessFlags := 16409, slot := 8, constantValue := 0 }, { name := "UNSUBSCRIBE", type := (.object "com/example/castd/castd/mqtt/PacketType"), accessFlags := 16409, slot := 9, constantValue := 0 }, { name := "UNSUBACK", type := (.object "com/example/castd/castd/mqtt/PacketType"), accessFlags := 16409, slot := 10, constantValue := 0 }, { name := "PINGREQ", type := (.object "com/example/castd/castd/mqtt/PacketType"), accessFlags := 16409, slot := 11, constantValue := 0 }, { name := "PINGRESP", type := (.object "com/example/castd/castd/mqtt/PacketType"), accessFlags := 16409, slot := 12, constantValue := 0 }, { name := "DISCONNECT", type := (.object "com/example/castd/castd/mqtt/PacketType"), accessFlags := 16409, slot := 13, constantValue := 0 }, { name := "ANY_FLAGS", type := .int, accessFlags := 26, slot := 14, constantValue := 0 }, { name := "code", type := .int, accessFlags := 18, slot := 3, constantValue := 0 }, { name := "requiredFlags", type := .int, accessFlags := 18, slot := 4, constantValue := 0 }, { name := "$VALUES", type := (.array (.object "com/example/castd/castd/mqtt/PacketType")), accessFlags := 4122, slot := 15, constantValue := 0 }]
  methods := #[k6m0, k6m1, k6m2]
  instanceTypes := #[(.object "java/lang/String"), .int, .int, .int, .int]
  staticTypes := #[(.object "com/example/castd/castd/mqtt/PacketType"), (.object "com/example/castd/castd/mqtt/PacketType"), (.object "com/example/castd/castd/mqtt/PacketType"), (.object "com/example/castd/castd/mqtt/PacketType"), (.object "com/example/castd/castd/mqtt/PacketType"), (.object "com/example/castd/castd/mqtt/PacketType"), (.object "com/example/castd/castd/mqtt/PacketType"), (.object "com/example/castd/castd/mqtt/PacketType"), (.object "com/example/castd/castd/mqtt/PacketType"), (.object "com/example/castd/castd/mqtt/PacketType"), (.object "com/example/castd/castd/mqtt/PacketType"), (.object "com/example/castd/castd/mqtt/PacketType"), (.object "com/example/castd/castd/mqtt/PacketType"), (.object "com/example/castd/castd/mqtt/PacketType"), .int, (.array (.object "com/example/castd/castd/mqtt/PacketType"))]
  resolved := Array.replicate 160 none
  statics := some 0 }

def pool7 : Array CpInfo := pool [(1, .class_ 2), (0, u "java/lang/Cloneable"), (0, .class_ 4), (0, u "java/lang/Object")] 2

/-- java/lang/Cloneable -/
def k7 : Class := { plain "java/lang/Cloneable" (some 0) with
  accessFlags := 1537
  interfaces := #[]
  cf := some (fileOf pool7 1 #[] #[] 1537 3 #[] #[])
  fields := #[]
  methods := #[]
  instanceTypes := #[]
  staticTypes := #[]
  resolved := Array.replicate 7 none
  statics := none }

/-- the primitive byte -/
def k8 : Class := { plain "byte" none with kind := .primitive 'B', accessFlags := 0x411 }
/-- [B -/
def k9 : Class := { plain "[B" (some 0) with kind := .array 8 .byte, interfaces := #[7, 4], accessFlags := 1041 }

/-- the primitive int -/
def k10 : Class := { plain "int" none with kind := .primitive 'I', accessFlags := 0x411 }
/-- [I -/
def k11 : Class := { plain "[I" (some 0) with kind := .array 10 .int, interfaces := #[7, 4], accessFlags := 1041 }

/-- [Lcom/example/castd/castd/mqtt/PacketType; -/
def k12 : Class := { plain "[Lcom/example/castd/castd/mqtt/PacketType;" (some 0) with kind := .array 6 (.object "com/example/castd/castd/mqtt/PacketType"), interfaces := #[7, 4], accessFlags := 1041 }

def heap : Heap := #[{ cls := 6, slots := #[.ref 2, .ref 3, .ref 4, .ref 5, .ref 6, .ref 7, .ref 8, .ref 9, .ref 10, .ref 11, .ref 12, .ref 13, .ref 14, .ref 15, .int 0, .ref 1], vm := .statics 6 },
  { cls := 12, slots := #[.ref 2, .ref 3, .ref 4, .ref 5, .ref 6, .ref 7, .ref 8, .ref 9, .ref 10, .ref 11, .ref 12, .ref 13, .ref 14, .ref 15], vm := .none },
  { cls := 6, slots := #[.null, .int 0, .int 0, .int 1, .int 0], vm := .none },
  { cls := 6, slots := #[.null, .int 1, .int 0, .int 2, .int 0], vm := .none },
  { cls := 6, slots := #[.null, .int 2, .int 0, .int 3, .int (-1)], vm := .none },
  { cls := 6, slots := #[.null, .int 3, .int 0, .int 4, .int 0], vm := .none },
  { cls := 6, slots := #[.null, .int 4, .int 0, .int 5, .int 0], vm := .none },
  { cls := 6, slots := #[.null, .int 5, .int 0, .int 6, .int 2], vm := .none },
  { cls := 6, slots := #[.null, .int 6, .int 0, .int 7, .int 0], vm := .none },
  { cls := 6, slots := #[.null, .int 7, .int 0, .int 8, .int 2], vm := .none },
  { cls := 6, slots := #[.null, .int 8, .int 0, .int 9, .int 0], vm := .none },
  { cls := 6, slots := #[.null, .int 9, .int 0, .int 10, .int 2], vm := .none },
  { cls := 6, slots := #[.null, .int 10, .int 0, .int 11, .int 0], vm := .none },
  { cls := 6, slots := #[.null, .int 11, .int 0, .int 12, .int 0], vm := .none },
  { cls := 6, slots := #[.null, .int 12, .int 0, .int 13, .int 0], vm := .none },
  { cls := 6, slots := #[.null, .int 13, .int 0, .int 14, .int 0], vm := .none }]
def classes : Array Class := #[k0, k1, k2, k3, k4, k5, k6, k7, k8, k9, k10, k11, k12]
def interned : List (Array UInt16 × Addr) := []
def slotsUsed : Nat := 100
def theMethod : MethodId := ⟨1, 1⟩
def args0 : Array Value := #[.int 3, .int 5]
def aboutOver (below : List Frame) : State where
  vm := { classes := classes, interned := interned.toArray }
  heap := heap
  slotsUsed := slotsUsed
  threads := #[{ frames := .invoking theMethod args0 :: below }]
def below0 : List Frame := [.native { method := ⟨0, 0⟩, args := #[] }]
def about1 : State := aboutOver below0
def p0 : Program := .bare "" "" ""
def e0 : Env := launch0.env 0 0 0
theorem w_frames : about1.frames = Frame.invoking theMethod args0 :: below0 := rfl
set_option maxRecDepth 65536 in
theorem w_args : argsFit about1.vm theMethod args0 = true := by decide +kernel
set_option maxRecDepth 65536 in
theorem w_heap : heapFits about1 = true := by decide +kernel
set_option maxRecDepth 65536 in
theorem w_runnable : about1.curStatus? = some .runnable := by decide +kernel
set_option maxRecDepth 65536 in
theorem w_alone : about1.alone = true := by decide +kernel
set_option maxRecDepth 65536 in
theorem w_named : about1.methodNamed? x = some theMethod := by decide +kernel
set_option maxRecDepth 65536 in
theorem w_hears : about1.hears theMethod below0 = true := by decide +kernel
set_option maxRecDepth 65536 in
theorem w_ripe : about1.ripe theMethod args0 below0 = true := by decide +kernel
theorem w_running : about1.status = .running := rfl
set_option maxRecDepth 65536 in
theorem w_room : about1.hasRoom e0.platform room_1 = true :=
  launch0.hasRoom_least _ room_1 (by decide +kernel) (by decide +kernel) (by decide +kernel) (by decide +kernel) (by decide +kernel) (by decide +kernel)
theorem allAtoms_all (ts : List Jvm.Cond) (a : Array Jvm.Value) (st : Jvm.State) : (allAtoms ts).before a st = ts.all (fun c => c.before a st) := by
  induction ts with
  | nil => rfl
  | cons c t ih =>
    show (Jvm.Cond.and c (allAtoms t)).before a st = _
    rw [Jvm.Cond.before_and, ih, List.all_cons]
def words1 : List Jvm.Cond := Jvm.Cond.code x code maxLocals ret :: tables_1
/-- a 'code' word, met by the world's own term for the bytes: nothing is compared byte by byte -/
theorem code_word {y : MethodName} {bytes : ByteArray} {mx : Nat} {rt : Option FieldType} {a : Array Value} {s : State} {m : MethodId} {meth : Method} {c : Code} (h1 : s.methodNamed? y = some m) (h2 : s.vm.method? m = some meth) (h3 : meth.code = some c) (h4 : c.code = bytes)
    (h5 : (c.maxLocals == mx && c.exceptionTable.isEmpty && decide (c.maxStack ≤ mostOperands) && decide (meth.sig.returnType = rt) && !meth.locks && decide (parseMethodDescriptor y.desc = some meth.sig)) = true) : (Jvm.Cond.code y bytes mx rt).before a s = true := by
  simp only [Bool.and_eq_true, beq_iff_eq, Bool.not_eq_true', decide_eq_true_eq] at h5
  obtain ⟨⟨⟨⟨⟨g1, g2⟩, g3⟩, g4⟩, g5⟩, g6⟩ := h5
  simp [Cond.before, Cond.holds, Cond.value, h1, h2, h3, h4, g1, g2, g3, g4, g5, g6]
def isCode : Jvm.Cond → Bool
  | .code _ _ _ _ => true
  | _ => false
theorem all_split {L : List Jvm.Cond} {P : Jvm.Cond → Bool} (h1 : L.all (fun c => isCode c || P c) = true) (h2 : ∀ c ∈ L.filter isCode, P c = true) : L.all P = true := by
  refine List.all_eq_true.mpr fun c hc => ?_
  have h := List.all_eq_true.mp h1 c hc
  rcases Bool.eq_false_or_eq_true (isCode c) with hi | hi
  · exact h2 c (List.mem_filter.mpr ⟨hc, hi⟩)
  · simpa [hi] using h
set_option maxRecDepth 65536 in
theorem w_c0 : (Jvm.Cond.code x code maxLocals ret).before args0 about1 = true := code_word (m := ⟨1, 1⟩) (meth := k1m1) (c := k1c1) (by decide +kernel) rfl rfl rfl (by decide +kernel)
set_option maxRecDepth 65536 in
theorem w_c1 : (Jvm.Cond.code ({ cls := "com/example/castd/castd/mqtt/PacketTypeFirstBytePinLaw", name := "type", desc := "(I)Lcom/example/castd/castd/mqtt/PacketType;" } : Jvm.MethodName) method_3_code (1 : Nat) (Option.some (Jvm.ClassFile.FieldType.object "com/example/castd/castd/mqtt/PacketType"))).before args0 about1 = true := code_word (m := ⟨1, 2⟩) (meth := k1m2) (c := k1c2) (by decide +kernel) rfl rfl rfl (by decide +kernel)
set_option maxRecDepth 65536 in
theorem w_c2 : (Jvm.Cond.code ({ cls := "com/example/castd/castd/mqtt/PacketType", name := "firstByte", desc := "(I)I" } : Jvm.MethodName) prog_85_method_6_code (3 : Nat) (Option.some Jvm.ClassFile.FieldType.int)).before args0 about1 = true := code_word (m := ⟨6, 2⟩) (meth := k6m2) (c := k6c2) (by decide +kernel) rfl rfl rfl (by decide +kernel)
set_option maxRecDepth 65536 in
theorem w_c3 : (Jvm.Cond.code ({ cls := "com/example/castd/castd/mqtt/PacketTypeFirstBytePinLaw", name := "fixed", desc := "(I)I" } : Jvm.MethodName) method_4_code (1 : Nat) (Option.some Jvm.ClassFile.FieldType.int)).before args0 about1 = true := code_word (m := ⟨1, 3⟩) (meth := k1m3) (c := k1c3) (by decide +kernel) rfl rfl rfl (by decide +kernel)
set_option maxRecDepth 65536 in
theorem w_c4 : (Jvm.Cond.code ({ cls := "com/example/castd/castd/mqtt/PacketType", name := "fromFirstByte", desc := "(I)Lcom/example/castd/castd/mqtt/PacketType;" } : Jvm.MethodName) prog_85_method_4_code (4 : Nat) (Option.some (Jvm.ClassFile.FieldType.object "com/example/castd/castd/mqtt/PacketType"))).before args0 about1 = true := code_word (m := ⟨6, 1⟩) (meth := k6m1) (c := k6c1) (by decide +kernel) rfl rfl rfl (by decide +kernel)
set_option maxRecDepth 65536 in
theorem w_c5 : (Jvm.Cond.code ({ cls := "com/example/castd/castd/mqtt/PacketType", name := "values", desc := "()[Lcom/example/castd/castd/mqtt/PacketType;" } : Jvm.MethodName) prog_85_method_1_code (0 : Nat) (Option.some (Jvm.ClassFile.FieldType.array (Jvm.ClassFile.FieldType.object "com/example/castd/castd/mqtt/PacketType")))).before args0 about1 = true := code_word (m := ⟨6, 0⟩) (meth := k6m0) (c := k6c0) (by decide +kernel) rfl rfl rfl (by decide +kernel)
def codes1 : List Jvm.Cond := [Jvm.Cond.code x code maxLocals ret, Jvm.Cond.code ({ cls := "com/example/castd/castd/mqtt/PacketTypeFirstBytePinLaw", name := "type", desc := "(I)Lcom/example/castd/castd/mqtt/PacketType;" } : Jvm.MethodName) method_3_code (1 : Nat) (Option.some (Jvm.ClassFile.FieldType.object "com/example/castd/castd/mqtt/PacketType")), Jvm.Cond.code ({ cls := "com/example/castd/castd/mqtt/PacketType", name := "firstByte", desc := "(I)I" } : Jvm.MethodName) prog_85_method_6_code (3 : Nat) (Option.some Jvm.ClassFile.FieldType.int), Jvm.Cond.code ({ cls := "com/example/castd/castd/mqtt/PacketTypeFirstBytePinLaw", name := "fixed", desc := "(I)I" } : Jvm.MethodName) method_4_code (1 : Nat) (Option.some Jvm.ClassFile.FieldType.int), Jvm.Cond.code ({ cls := "com/example/castd/castd/mqtt/PacketType", name := "fromFirstByte", desc := "(I)Lcom/example/castd/castd/mqtt/PacketType;" } : Jvm.MethodName) prog_85_method_4_code (4 : Nat) (Option.some (Jvm.ClassFile.FieldType.object "com/example/castd/castd/mqtt/PacketType")), Jvm.Cond.code ({ cls := "com/example/castd/castd/mqtt/PacketType", name := "values", desc := "()[Lcom/example/castd/castd/mqtt/PacketType;" } : Jvm.MethodName) prog_85_method_1_code (0 : Nat) (Option.some (Jvm.ClassFile.FieldType.array (Jvm.ClassFile.FieldType.object "com/example/castd/castd/mqtt/PacketType")))]
set_option maxRecDepth 65536 in
theorem codes_eq : words1.filter isCode = codes1 := rfl
theorem w_codes : ∀ c ∈ words1.filter isCode, c.before args0 about1 = true := by
  rw [codes_eq]
  intro c hc
  simp only [codes1, List.mem_cons, List.not_mem_nil, or_false] at hc
  rcases hc with rfl | rfl | rfl | rfl | rfl | rfl
  · exact w_c0
  · exact w_c1
  · exact w_c2
  · exact w_c3
  · exact w_c4
  · exact w_c5
set_option maxRecDepth 65536 in
theorem w_t1 : (words1.take 24).all (fun c => isCode c || c.before args0 about1) = true := by decide +kernel
set_option maxRecDepth 65536 in
theorem w_t2 : ((words1.drop 24).take 24).all (fun c => isCode c || c.before args0 about1) = true := by decide +kernel
set_option maxRecDepth 65536 in
theorem w_t3 : ((words1.drop 24).drop 24).all (fun c => isCode c || c.before args0 about1) = true := by decide +kernel
theorem w_tables : (allAtoms (Jvm.Cond.code x code maxLocals ret :: tables_1)).before args0 about1 = true := by
  rw [allAtoms_all]
  show words1.all (fun c => c.before args0 about1) = true
  refine all_split ?_ w_codes
  rw [← List.take_append_drop 24 words1, List.all_append, w_t1, ← List.take_append_drop 24 (words1.drop 24), List.all_append, w_t2, w_t3]
  rfl
set_option maxRecDepth 65536 in
theorem w_case : (Jvm.Cond.and given_1 narrow_1).before args0 about1 = true := by decide +kernel
theorem w_applies : (headSpec (Jvm.Cond.code x code maxLocals ret :: tables_1) room_1).applies x e0.platform about1 = true :=
  (Spec.applies_iff w_frames).mpr ⟨w_running, w_runnable, w_alone, w_named, w_hears, w_ripe, w_room, w_tables⟩
theorem atStart : AtStart classFile x code maxLocals ret World_1 tables_1 room_1 Calls_1 rest_1 Pre_1 launch0 p0 e0 about1 theMethod args0 below0 :=
  ⟨lists_1, trivial, launch0.admits_env _ _ _, launch0.least_env, fairChoices_fair.cas, fairChoices_fair.clock, w_frames, w_args, w_heap, w_applies, trivial, trivial, w_case⟩
end start1
theorem witness_1 : WitnessClaimed_1 := ⟨start1.p0, start1.e0, start1.about1, start1.theMethod, start1.args0, start1.below0, start1.atStart⟩
end Jvm.Pilot.@@N@@
